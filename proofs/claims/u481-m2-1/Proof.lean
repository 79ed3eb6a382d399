import JvmDerived
import JvmDerived.Pilot.@@N@@Statement
import JvmDerived.Pilot.@@N@@Code
set_option linter.unusedVariables false
set_option linter.unusedSimpArgs false
/- laws to paste: Road.backV (cut by pick.py; bodies as the Statement names them) -/
namespace Jvm.Pilot.@@N@@
namespace StrChars
open Jvm Sem ClassFile Op Lib Jvm.Stand Jvm.Free.XT Jvm.Free.ALB Jvm.Free.JM Jvm.Free
open Jvm.Lib.Cold (StaticIs)
/-- a char array whose places are chars -/
def Ch (a : Addr) (A : Cell) (U : State) : Prop := Arr .char a A U ∧ Typed .char A
theorem Ch.mv {a : Addr} {A : Cell} {U U' : State} (h : Ch a A U) (hal : U.vm.Alike U'.vm) (hh : U'.heap = U.heap) : Ch a A U' := ⟨h.1.mv hal hh, h.2⟩
theorem Ch.keep {a : Addr} {A : Cell} {U U' : State} (h : Ch a A U) (hal : U.vm.Alike U'.vm) (hk : U'.heap[a]? = some A) : Ch a A U' := ⟨h.1.keep hal hk, h.2⟩
/-- what place i of a char[]'s cell holds -/
def cv (A : Cell) (i : Nat) : Int32 := match A.slots[i]? with | some (.int x) => x | _ => 0
theorem Ch.get {a : Addr} {A : Cell} {U : State} (h : Ch a A U) {i : Nat} (hi : i < A.slots.size) : A.slots[i]? = some (.int (cv A i)) := by
  have e := Array.getElem?_eq_getElem hi
  have f := h.2 i _ e
  unfold cv; rw [e]
  generalize A.slots[i] = v at f
  cases v <;> simp [fits] at f ⊢
/-- the byte that i2b leaves of a char -/
def lo8 (x : Int32) : Int32 := x.toInt8.toInt32
theorem fits_lo8 (y : Int32) : fits .byte (.int (lo8 y)) = true := by
  have h1 := y.toInt8.le_toInt
  have h2 := y.toInt8.toInt_lt
  simp only [lo8, fits, Bool.and_eq_true, decide_eq_true_eq, Int32.le_iff_toInt_le, Int8.toInt_toInt32, show (-128 : Int32).toInt = -128 from by decide, show (127 : Int32).toInt = 127 from by decide]
  omega
/-- A' is A but that each place j of lo .. hi - 1 holds f j -/
def Laid (A A' : Cell) (lo hi : Nat) (f : Nat → Value) : Prop := A'.cls = A.cls ∧ A'.vm = A.vm ∧ A'.slots.size = A.slots.size ∧ ∀ i, A'.slots[i]? = if lo ≤ i ∧ i < hi then some (f i) else A.slots[i]?
theorem Laid.zero (A : Cell) (lo : Nat) (f : Nat → Value) : Laid A A lo (lo + 0) f := ⟨rfl, rfl, rfl, fun i => by rw [if_neg (by omega)]⟩
theorem Laid.step {A Ak : Cell} {lo k : Nat} {f : Nat → Value} {v : Value} (h : Laid A Ak lo k f) (hlo : lo ≤ k) (hk : k < Ak.slots.size) (hv : v = f k) : Laid A (Ak.setSlot k v) lo (k + 1) f := by
  refine ⟨h.1, h.2.1, by simpa [Cell.setSlot] using h.2.2.1, fun i => ?_⟩
  by_cases e : k = i
  · subst e; rw [Cell.slots_setSlot_self v hk, if_pos (by omega), hv]
  · rw [Cell.slots_setSlot_ne v e, h.2.2.2 i]
    by_cases q : lo ≤ i ∧ i < k
    · rw [if_pos q, if_pos (by omega)]
    · rw [if_neg q, if_neg (by omega)]
def U16 : String := "java/lang/StringUTF16"
namespace Cmp5
def yN : MethodName := ⟨"java/lang/StringUTF16", "compress", "([CI[BII)I"⟩
abbrev yB : ByteArray := jdk_52_method_21_code
theorem d0 : decode yB 0 = .ok (.iconst 0, 1) := by decide +kernel
theorem d1 : decode yB 1 = .ok (.istore 5, 2) := by decide +kernel
theorem d3 : decode yB 3 = .ok (.iload 5, 2) := by decide +kernel
theorem d5 : decode yB 5 = .ok (.iload 4, 2) := by decide +kernel
theorem d7 : decode yB 7 = .ok (.if_icmp (.ge) 37, 3) := by decide +kernel
theorem d10 : decode yB 10 = .ok (.aload_n 0, 1) := by decide +kernel
theorem d11 : decode yB 11 = .ok (.iload_n 1, 1) := by decide +kernel
theorem d12 : decode yB 12 = .ok (.caload, 1) := by decide +kernel
theorem d13 : decode yB 13 = .ok (.istore 6, 2) := by decide +kernel
theorem d15 : decode yB 15 = .ok (.iload 6, 2) := by decide +kernel
theorem d17 : decode yB 17 = .ok (.sipush 255, 3) := by decide +kernel
theorem d20 : decode yB 20 = .ok (.if_icmp (.le) 6, 3) := by decide +kernel
theorem d26 : decode yB 26 = .ok (.aload_n 2, 1) := by decide +kernel
theorem d27 : decode yB 27 = .ok (.iload_n 3, 1) := by decide +kernel
theorem d28 : decode yB 28 = .ok (.iload 6, 2) := by decide +kernel
theorem d30 : decode yB 30 = .ok (.i2b, 1) := by decide +kernel
theorem d31 : decode yB 31 = .ok (.bastore, 1) := by decide +kernel
theorem d32 : decode yB 32 = .ok (.iinc 1 1, 3) := by decide +kernel
theorem d35 : decode yB 35 = .ok (.iinc 3 1, 3) := by decide +kernel
theorem d38 : decode yB 38 = .ok (.iinc 5 1, 3) := by decide +kernel
theorem d41 : decode yB 41 = .ok (.goto (-38), 3) := by decide +kernel
theorem d44 : decode yB 44 = .ok (.iload 4, 2) := by decide +kernel
theorem d46 : decode yB 46 = .ok (.ireturn, 1) := by decide +kernel
def site : List Cond := []
def tab : Cond := tabOf yN yB 7 (some .int) site
def P (b : Addr) (A : Cell) (d : Addr) (B : Cell) (o q len : Nat) (args : Array Value) (s : State) : Prop := args = #[.ref b, .int (Int32.ofNat o), .ref d, .int (Int32.ofNat q), .int (Int32.ofNat len)] ∧ Ch b A s ∧ Arr .byte d B s ∧ b ≠ d ∧ o + len ≤ A.slots.size ∧ q + len ≤ B.slots.size ∧ ∀ i, i < len → ¬ 255 < cv A (o + i)
def E (b : Addr) (A : Cell) (d : Addr) (B : Cell) (o q len : Nat) (r : Option Value) (s u : State) : Prop := r = some (.int (Int32.ofNat len)) ∧ ∃ B', Put d B' s u ∧ Laid B B' q (q + len) (fun j => Value.int (lo8 (cv A (o + (j - q)))))
/-- no char of the range above 255: len; the places written hold each char's low byte -/
theorem law (l : Launch) (b : Addr) (A : Cell) (d : Addr) (B : Cell) (o q len : Nat) : Law l yN 5 5 0 0 yB 7 (some .int) site (P b A d B o q len) (E b A d B o q len) (copyLocs d q len) 0 0 := by
  refine Law.of_walk (plainFor_of_name (by decide +kernel)) (by decide +kernel) (by decide +kernel) (by decide) (fun _ _ h => by rw [h.1]; rfl) (fun _ U U' hal hh h => ⟨h.1, h.2.1.mv hal hh, h.2.2.1.mv hal hh, h.2.2.2⟩) (fun r U U' V V' h1 hal h2 h => ⟨h.1, h.2.elim fun B' q => ⟨B', q.1.mv h1 h2, q.2⟩⟩) ?_
  intro p e s m args below meth c s₁ X0 hexec hbytes hml hret hlk hnm hown hh0 W hP
  obtain ⟨rfl, hA, hB, hne, l1, l2, hp⟩ := hP
  have c1 : Steps p.tables e below (s₁.setTop (entryFrame m #[.ref b, .int (Int32.ofNat o), .ref d, .int (Int32.ofNat q), .int (Int32.ofNat len)] 7)) (s₁.setTop (mkF m 0 #[.val (.ref b), .val (.int (Int32.ofNat o)), .val (.ref d), .val (.int (Int32.ofNat q)), .val (.int (Int32.ofNat len)), .unset, .unset] [])) := entry rfl
  have hA0 := hA.1.mv X0.warmed.alike hh0
  have hB0 := hB.mv X0.warmed.alike hh0
  have a31 := hA.1.2.2.2
  have c2 : Steps p.tables e below (s₁.setTop (entryFrame m #[.ref b, .int (Int32.ofNat o), .ref d, .int (Int32.ofNat q), .int (Int32.ofNat len)] 7)) (s₁.setTop (mkF m 3 #[.val (.ref b), .val (.int (Int32.ofNat o)), .val (.ref d), .val (.int (Int32.ofNat q)), .val (.int (Int32.ofNat len)), .val (.int 0), .unset] [])) := c1.trans (by
    refine iconstV X0.here hexec rfl 0 (hb hbytes d0) (by decide) ?_
    refine XS.istore X0.here hexec rfl (hb hbytes d1) rfl rfl ?_
    exact Steps.refl _)
  have loop : ∀ (r i : Nat), i + r = len → ∀ (z : Slot), (z = .unset ∨ ∃ w, z = .val w ∧ w.category = 1) → ∀ (Tl : State) (Bk : Cell), Stand p l e { frames := 0, locals := 0, cells := 0, slots := 0 } s m #[.ref b, .int (Int32.ofNat o), .ref d, .int (Int32.ofNat q), .int (Int32.ofNat len)] below meth c Tl ([] ++ copyLocs d q i) 0 0 → Put d Bk s₁ Tl → Laid B Bk q (q + i) (fun j => Value.int (lo8 (cv A (o + (j - q))))) →
      Steps p.tables e below (s₁.setTop (entryFrame m #[.ref b, .int (Int32.ofNat o), .ref d, .int (Int32.ofNat q), .int (Int32.ofNat len)] 7)) (Tl.setTop (mkF m 3 #[.val (.ref b), .val (.int (Int32.ofNat (o + i))), .val (.ref d), .val (.int (Int32.ofNat (q + i))), .val (.int (Int32.ofNat len)), .val (.int (Int32.ofNat i)), z] [])) → ∃ (T' : State) (B' : Cell) (z' : Slot), Stand p l e { frames := 0, locals := 0, cells := 0, slots := 0 } s m #[.ref b, .int (Int32.ofNat o), .ref d, .int (Int32.ofNat q), .int (Int32.ofNat len)] below meth c T' ([] ++ copyLocs d q len) 0 0 ∧ Put d B' s₁ T' ∧ Laid B B' q (q + len) (fun j => Value.int (lo8 (cv A (o + (j - q))))) ∧
      Steps p.tables e below (s₁.setTop (entryFrame m #[.ref b, .int (Int32.ofNat o), .ref d, .int (Int32.ofNat q), .int (Int32.ofNat len)] 7)) (T'.setTop (mkF m 3 #[.val (.ref b), .val (.int (Int32.ofNat (o + len))), .val (.ref d), .val (.int (Int32.ofNat (q + len))), .val (.int (Int32.ofNat len)), .val (.int (Int32.ofNat len)), z'] [])) := by
    intro r
    induction r with
    | zero =>
      intro i hi z hz Tl Bk Xl pl fl cl
      have hil : i = len := by omega
      rw [hil] at Xl fl cl
      exact ⟨Tl, Bk, z, Xl, pl, fl, cl⟩
    | succ r ih =>
      intro i hi z hz Tl Bk Xl pl fl cl
      have all := X0.warmed.alike.symm.trans Xl.warmed.alike
      have hAl := hA0.keep all (pl.other hne hA0.1)
      have hBk := hB0.like all pl.1 fl.1 fl.2.1 fl.2.2.1
      have hlt : q + i < Bk.slots.size := by rw [fl.2.2.1]; omega
      have c3 : Steps p.tables e below (s₁.setTop (entryFrame m #[.ref b, .int (Int32.ofNat o), .ref d, .int (Int32.ofNat q), .int (Int32.ofNat len)] 7)) (Tl.setTop (mkF m 12 #[.val (.ref b), .val (.int (Int32.ofNat (o + i))), .val (.ref d), .val (.int (Int32.ofNat (q + i))), .val (.int (Int32.ofNat len)), .val (.int (Int32.ofNat i)), z] [.int (Int32.ofNat (o + i)), .ref b])) := cl.trans (by
        refine XS.iload Xl.here hexec rfl (hb hbytes d3) rfl ?_
        refine XS.iload Xl.here hexec rfl (hb hbytes d5) rfl ?_
        refine XS.icmpNo Xl.here hexec rfl (hb hbytes d7) rfl (ii_ge_f (lt32 (by omega) (by omega))) ?_
        refine XS.aloadN Xl.here hexec rfl (hb hbytes d10) rfl rfl ?_
        refine XS.iloadN Xl.here hexec rfl (hb hbytes d11) rfl ?_
        exact Steps.refl _)
      have c4 : Steps p.tables e below (s₁.setTop (entryFrame m #[.ref b, .int (Int32.ofNat o), .ref d, .int (Int32.ofNat q), .int (Int32.ofNat len)] 7)) (Tl.setTop (mkF m 13 #[.val (.ref b), .val (.int (Int32.ofNat (o + i))), .val (.ref d), .val (.int (Int32.ofNat (q + i))), .val (.int (Int32.ofNat len)), .val (.int (Int32.ofNat i)), z] [.int (cv A (o + i))])) := c3.trans (by
        refine Xl.aget hexec hAl rfl (hA.get (i := o + i) (by omega)) rfl rfl (hb hbytes d12) ?_
        exact Steps.refl _)
      have c5 : Steps p.tables e below (s₁.setTop (entryFrame m #[.ref b, .int (Int32.ofNat o), .ref d, .int (Int32.ofNat q), .int (Int32.ofNat len)] 7)) (Tl.setTop (mkF m 15 #[.val (.ref b), .val (.int (Int32.ofNat (o + i))), .val (.ref d), .val (.int (Int32.ofNat (q + i))), .val (.int (Int32.ofNat len)), .val (.int (Int32.ofNat i)), .val (.int (cv A (o + i)))] [])) := c4.trans (by
        refine XS.istoreS Xl.here hexec rfl (hb hbytes d13) rfl rfl hz ?_
        exact Steps.refl _)
      have c6 : Steps p.tables e below (s₁.setTop (entryFrame m #[.ref b, .int (Int32.ofNat o), .ref d, .int (Int32.ofNat q), .int (Int32.ofNat len)] 7)) (Tl.setTop (mkF m 31 #[.val (.ref b), .val (.int (Int32.ofNat (o + i))), .val (.ref d), .val (.int (Int32.ofNat (q + i))), .val (.int (Int32.ofNat len)), .val (.int (Int32.ofNat i)), .val (.int (cv A (o + i)))] [.int (lo8 (cv A (o + i))), .int (Int32.ofNat (q + i)), .ref d])) := c5.trans (by
        refine XS.iload Xl.here hexec rfl (hb hbytes d15) rfl ?_
        refine sipushV Xl.here hexec rfl 255 (hb hbytes d17) (by decide) ?_
        refine XS.icmpYes Xl.here hexec rfl (pc0 := 20) rfl (hb hbytes d20) rfl (ii_le_t (hp i (by omega))) (by decide) rfl ?_
        refine XS.aloadN Xl.here hexec rfl (hb hbytes d26) rfl rfl ?_
        refine XS.iloadN Xl.here hexec rfl (hb hbytes d27) rfl ?_
        refine XS.iload Xl.here hexec rfl (hb hbytes d28) rfl ?_
        refine i2b Xl.here hexec rfl (hb hbytes d30) rfl ?_
        exact Steps.refl _)
      obtain ⟨T7, X7, p7, st7⟩ := Xl.aput hexec hBk rfl hlt rfl (fits_lo8 (cv A (o + i))) (g := (mkF m 31 #[.val (.ref b), .val (.int (Int32.ofNat (o + i))), .val (.ref d), .val (.int (Int32.ofNat (q + i))), .val (.int (Int32.ofNat len)), .val (.int (Int32.ofNat i)), .val (.int (cv A (o + i)))] [.int (lo8 (cv A (o + i))), .int (Int32.ofNat (q + i)), .ref d])) rfl (rest := []) rfl (hb hbytes d31)
      have c8 : Steps p.tables e below (s₁.setTop (entryFrame m #[.ref b, .int (Int32.ofNat o), .ref d, .int (Int32.ofNat q), .int (Int32.ofNat len)] 7)) (T7.setTop (mkF m 32 #[.val (.ref b), .val (.int (Int32.ofNat (o + i))), .val (.ref d), .val (.int (Int32.ofNat (q + i))), .val (.int (Int32.ofNat len)), .val (.int (Int32.ofNat i)), .val (.int (cv A (o + i)))] [])) := c6.trans (st7 _ (Steps.refl _))
      have c9 : Steps p.tables e below (s₁.setTop (entryFrame m #[.ref b, .int (Int32.ofNat o), .ref d, .int (Int32.ofNat q), .int (Int32.ofNat len)] 7)) (T7.setTop (mkF m 3 #[.val (.ref b), .val (.int (Int32.ofNat (o + i) + 1)), .val (.ref d), .val (.int (Int32.ofNat (q + i) + 1)), .val (.int (Int32.ofNat len)), .val (.int (Int32.ofNat i + 1)), .val (.int (cv A (o + i)))] [])) := c8.trans (by
        refine iincV X7.here hexec rfl 1 (hb hbytes d32) (by decide) rfl rfl ?_
        refine iincV X7.here hexec rfl 1 (hb hbytes d35) (by decide) rfl rfl ?_
        refine iincV X7.here hexec rfl 1 (hb hbytes d38) (by decide) rfl rfl ?_
        refine XS.goto X7.here hexec rfl (pc0 := 41) rfl (hb hbytes d41) (by decide) rfl ?_
        exact Steps.refl _)
      have c10 : Steps p.tables e below (s₁.setTop (entryFrame m #[.ref b, .int (Int32.ofNat o), .ref d, .int (Int32.ofNat q), .int (Int32.ofNat len)] 7)) (T7.setTop (mkF m 3 #[.val (.ref b), .val (.int (Int32.ofNat (o + (i + 1)))), .val (.ref d), .val (.int (Int32.ofNat (q + (i + 1)))), .val (.int (Int32.ofNat len)), .val (.int (Int32.ofNat (i + 1))), .val (.int (cv A (o + i)))] [])) := by
        have := c9
        rw [succ32, succ32, succ32] at this
        exact this
      exact ih (i + 1) (by omega) _ (Or.inr ⟨_, rfl, rfl⟩) T7 _ (by rw [copyLocs_step, ← List.append_assoc]; exact X7) (pl.trans p7) (fl.step (by omega) hlt (by simp)) c10
  obtain ⟨T9, B9, z9, X9, p9, f9, g9⟩ := loop len 0 (by omega) .unset (Or.inl rfl) s₁ B (by simpa [copyLocs] using X0) ⟨hB0.1, fun _ _ => rfl, rfl⟩ (Laid.zero _ _ _) c2
  have c11 : Steps p.tables e below (s₁.setTop (entryFrame m #[.ref b, .int (Int32.ofNat o), .ref d, .int (Int32.ofNat q), .int (Int32.ofNat len)] 7)) (T9.setTop (mkF m 46 #[.val (.ref b), .val (.int (Int32.ofNat (o + len))), .val (.ref d), .val (.int (Int32.ofNat (q + len))), .val (.int (Int32.ofNat len)), .val (.int (Int32.ofNat len)), z9] [.int (Int32.ofNat len)])) := g9.trans (by
    refine XS.iload X9.here hexec rfl (hb hbytes d3) rfl ?_
    refine XS.iload X9.here hexec rfl (hb hbytes d5) rfl ?_
    refine XS.icmpYes X9.here hexec rfl (pc0 := 7) rfl (hb hbytes d7) rfl (ii_ge_t (nlt32 (by omega) (Nat.le_refl _))) (by decide) rfl ?_
    refine XS.iload X9.here hexec rfl (hb hbytes d44) rfl ?_
    exact Steps.refl _)
  exact ⟨T9, some (.int (Int32.ofNat len)), _, _, _, X9, by simp, rfl, rfl, (fun h => by cases h), ⟨rfl, B9, p9.from hh0, f9⟩, fun fs hl => c11.trans (X9.ireturnOut hexec hret rfl (Or.inl rfl) (hb hbytes d46) hl)⟩
end Cmp5
namespace Cmp3
def yN : MethodName := ⟨"java/lang/StringUTF16", "compress", "([CII)[B"⟩
abbrev yB : ByteArray := jdk_52_method_16_code
theorem d0 : decode yB 0 = .ok (.iload_n 2, 1) := by decide +kernel
theorem d1 : decode yB 1 = .ok (.newarray .byte, 2) := by decide +kernel
theorem d3 : decode yB 3 = .ok (.astore_n 3, 1) := by decide +kernel
theorem d4 : decode yB 4 = .ok (.aload_n 0, 1) := by decide +kernel
theorem d5 : decode yB 5 = .ok (.iload_n 1, 1) := by decide +kernel
theorem d6 : decode yB 6 = .ok (.aload_n 3, 1) := by decide +kernel
theorem d7 : decode yB 7 = .ok (.iconst 0, 1) := by decide +kernel
theorem d8 : decode yB 8 = .ok (.iload_n 2, 1) := by decide +kernel
theorem d9 : decode yB 9 = .ok (.invokestatic 115, 3) := by decide +kernel
theorem d12 : decode yB 12 = .ok (.istore 4, 2) := by decide +kernel
theorem d14 : decode yB 14 = .ok (.iload 4, 2) := by decide +kernel
theorem d16 : decode yB 16 = .ok (.iload_n 2, 1) := by decide +kernel
theorem d17 : decode yB 17 = .ok (.if_icmp (.eq) 40, 3) := by decide +kernel
theorem d57 : decode yB 57 = .ok (.aload_n 3, 1) := by decide +kernel
theorem d58 : decode yB 58 = .ok (.areturn, 1) := by decide +kernel
def site : List Cond := [.arrayClass .byte, Cmp5.tab] ++ staticW U16 115 Cmp5.yN
def tab : Cond := tabOf yN yB 6 (some (.array .byte)) site
def P (b : Addr) (A : Cell) (o len : Nat) (args : Array Value) (s : State) : Prop := args = #[.ref b, .int (Int32.ofNat o), .int (Int32.ofNat len)] ∧ Ch b A s ∧ o + len ≤ A.slots.size ∧ len ≤ 536870912 ∧ ∀ i, i < len → ¬ 255 < cv A (o + i)
def E (b : Addr) (A : Cell) (o len : Nat) (r : Option Value) (s u : State) : Prop := NewArr .byte "[B" len (fun j => .int (lo8 (cv A (o + j)))) r s u ∧ u.heap.size = s.heap.size + 1
/-- no char of the range above 255: a new byte[] of their low bytes -/
theorem law (l : Launch) (b : Addr) (A : Cell) (o len : Nat) : Law l yN 3 3 1 18 yB 6 (some (.array .byte)) site (P b A o len) (E b A o len) [] 1 len := by
  refine Law.of_walk (plainFor_of_name (by decide +kernel)) (by decide +kernel) (by decide +kernel) (by decide) (fun _ _ h => by rw [h.1]; rfl) (fun _ U U' hal hh h => ⟨h.1, h.2.1.mv hal hh, h.2.2⟩) (fun r U U' V V' h1 hal h2 h => ⟨NewArr.mv r U U' V V' h1 hal h2 h.1, by rw [h1, h2]; exact h.2⟩) ?_
  intro p e s m args below meth c s₁ X0 hexec hbytes hml hret hlk hnm hown hh0 W hP
  obtain ⟨rfl, hA, l1, l2, hp⟩ := hP
  have a31 := hA.1.2.2.2
  have c1 : Steps p.tables e below (s₁.setTop (entryFrame m #[.ref b, .int (Int32.ofNat o), .int (Int32.ofNat len)] 6)) (s₁.setTop (mkF m 0 #[.val (.ref b), .val (.int (Int32.ofNat o)), .val (.int (Int32.ofNat len)), .unset, .unset, .unset] [])) := entry rfl
  have c2 : Steps p.tables e below (s₁.setTop (entryFrame m #[.ref b, .int (Int32.ofNat o), .int (Int32.ofNat len)] 6)) (s₁.setTop (mkF m 1 #[.val (.ref b), .val (.int (Int32.ofNat o)), .val (.int (Int32.ofNat len)), .unset, .unset, .unset] [.int (Int32.ofNat len)])) := c1.trans (by
    refine XS.iloadN X0.here hexec rfl (hb hbytes d0) rfl ?_
    exact Steps.refl _)
  obtain ⟨T3, B3, X3, ba3, bs3, bv3, bh3, bf3, st3⟩ := X0.anew hexec (atype := .byte) (wk W (.arrayClass .byte)) rfl (by show len * 1 ≤ _; omega) (by omega) (g := (mkF m 1 #[.val (.ref b), .val (.int (Int32.ofNat o)), .val (.int (Int32.ofNat len)), .unset, .unset, .unset] [.int (Int32.ofNat len)])) rfl (hb hbytes d1) (rest := []) rfl (Nat.le_refl _) (by show 0 + len ≤ len; omega)
  rw [hh0] at ba3 st3
  have kp3 : XT.Kept s T3 := (XT.Kept.of_eq hh0).push bh3
  have hA3 := hA.keep X3.warmed.alike (kp3 _ _ hA.1.1)
  have hne : b ≠ s.heap.size := hA.1.ne
  have c4 : Steps p.tables e below (s₁.setTop (entryFrame m #[.ref b, .int (Int32.ofNat o), .int (Int32.ofNat len)] 6)) (T3.setTop (mkF m 3 #[.val (.ref b), .val (.int (Int32.ofNat o)), .val (.int (Int32.ofNat len)), .unset, .unset, .unset] [.ref s.heap.size])) := c2.trans (st3 _ (Steps.refl _))
  have c5 : Steps p.tables e below (s₁.setTop (entryFrame m #[.ref b, .int (Int32.ofNat o), .int (Int32.ofNat len)] 6)) (T3.setTop (mkF m 9 #[.val (.ref b), .val (.int (Int32.ofNat o)), .val (.int (Int32.ofNat len)), .val (.ref s.heap.size), .unset, .unset] [.int (Int32.ofNat len), .int 0, .ref s.heap.size, .int (Int32.ofNat o), .ref b])) := c4.trans (by
    refine XS.astoreN X3.here hexec rfl (hb hbytes d3) rfl rfl rfl ?_
    refine XS.aloadN X3.here hexec rfl (hb hbytes d4) rfl rfl ?_
    refine XS.iloadN X3.here hexec rfl (hb hbytes d5) rfl ?_
    refine XS.aloadN X3.here hexec rfl (hb hbytes d6) rfl rfl ?_
    refine iconstV X3.here hexec rfl 0 (hb hbytes d7) (by decide) ?_
    refine XS.iloadN X3.here hexec rfl (hb hbytes d8) rfl ?_
    exact Steps.refl _)
  obtain ⟨v6, T6, X6, E6, g6⟩ := X3.callS hexec (Cmp5.law l b A s.heap.size B3 o 0 len) hown (wks W (staticW U16 115 Cmp5.yN)) (wk W Cmp5.tab) (W := 0) (Nat.le_of_ble_eq_true rfl) (Nat.le_of_ble_eq_true rfl) (Nat.le_refl _) (by show 0 + len + 0 ≤ len; omega) (g := (mkF m 9 #[.val (.ref b), .val (.int (Int32.ofNat o)), .val (.int (Int32.ofNat len)), .val (.ref s.heap.size), .unset, .unset] [.int (Int32.ofNat len), .int (Int32.ofNat 0), .ref s.heap.size, .int (Int32.ofNat o), .ref b])) rfl (by rw [hml]; rfl) c5 (argsL := [.ref b, .int (Int32.ofNat o), .ref s.heap.size, .int (Int32.ofNat 0), .int (Int32.ofNat len)]) (rest := []) rfl rfl (by show 2 * 0 + 0 ≤ _; decide) (hb hbytes d9) (⟨rfl, hA3, ba3, hne, l1, by rw [bs3]; simp, hp⟩)
  obtain ⟨rfl, B6, p6, f6⟩ := E6
  have c7 : Steps p.tables e below (s₁.setTop (entryFrame m #[.ref b, .int (Int32.ofNat o), .int (Int32.ofNat len)] 6)) (T6.setTop (mkF m 12 #[.val (.ref b), .val (.int (Int32.ofNat o)), .val (.int (Int32.ofNat len)), .val (.ref s.heap.size), .unset, .unset] [.int (Int32.ofNat len)])) := g6
  have c8 : Steps p.tables e below (s₁.setTop (entryFrame m #[.ref b, .int (Int32.ofNat o), .int (Int32.ofNat len)] 6)) (T6.setTop (mkF m 58 #[.val (.ref b), .val (.int (Int32.ofNat o)), .val (.int (Int32.ofNat len)), .val (.ref s.heap.size), .val (.int (Int32.ofNat len)), .unset] [.ref s.heap.size])) := c7.trans (by
    refine XS.istore X6.here hexec rfl (hb hbytes d12) rfl rfl ?_
    refine XS.iload X6.here hexec rfl (hb hbytes d14) rfl ?_
    refine XS.iloadN X6.here hexec rfl (hb hbytes d16) rfl ?_
    refine XS.icmpYes X6.here hexec rfl (pc0 := 17) rfl (hb hbytes d17) rfl (ii_eq_t rfl) (by decide) rfl ?_
    refine XS.aloadN X6.here hexec rfl (hb hbytes d57) rfl rfl ?_
    exact Steps.refl _)
  have X8 := X6.wide (L' := []) (cells' := 1) (slots' := len) (fun x hx hlt => by
    simp only [List.nil_append, copyLocs, List.mem_map, List.mem_range] at hx
    obtain ⟨i, -, rfl⟩ := hx
    exact absurd hlt (Nat.lt_irrefl _)) (Nat.le_refl _) (by omega)
  exact ⟨T6, some (.ref s.heap.size), _, _, _, X8, rfl, rfl, rfl, (fun h => by cases h), ⟨⟨rfl, B6, ba3.like (X3.warmed.alike.symm.trans X6.warmed.alike) p6.1 f6.1 f6.2.1 f6.2.2.1, f6.2.1.trans bv3, by rw [X6.warmed.alike.findClass, f6.1]; exact bf3, by rw [f6.2.2.1, bs3]; simp, fun j hj => by rw [f6.2.2.2 j, if_pos (by omega)]; rfl, kp3.put p6 (Nat.le_refl _)⟩, by rw [p6.2.2, bh3, hh0]; simp⟩, fun fs hl => c8.trans (X8.areturnOut hexec rfl hret rfl (hb hbytes d58) hl)⟩
end Cmp3
namespace CodL
def yN : MethodName := ⟨"java/lang/StringUTF16", "coderFromArrayLen", "([BI)B"⟩
abbrev yB : ByteArray := jdk_52_method_15_code
theorem d0 : decode yB 0 = .ok (.iload_n 1, 1) := by decide +kernel
theorem d1 : decode yB 1 = .ok (.aload_n 0, 1) := by decide +kernel
theorem d2 : decode yB 2 = .ok (.arraylength, 1) := by decide +kernel
theorem d3 : decode yB 3 = .ok (.isub, 1) := by decide +kernel
theorem d4 : decode yB 4 = .ok (.bipush 31, 2) := by decide +kernel
theorem d6 : decode yB 6 = .ok (.iushr, 1) := by decide +kernel
theorem d7 : decode yB 7 = .ok (.i2b, 1) := by decide +kernel
theorem d8 : decode yB 8 = .ok (.ireturn, 1) := by decide +kernel
def site : List Cond := []
def tab : Cond := tabOf yN yB 2 (some .byte) site
def P (d : Addr) (B : Cell) (args : Array Value) (s : State) : Prop := args = #[.ref d, .int (Int32.ofNat B.slots.size)] ∧ Arr .byte d B s
def E (r : Option Value) (s u : State) : Prop := XT.PureE (some (.int 0)) r s u
/-- an array as long as the number of chars: LATIN1 -/
theorem law (l : Launch) (d : Addr) (B : Cell) : Law l yN 2 2 0 0 yB 2 (some .byte) site (P d B) E [] 0 0 := by
  refine Law.of_walk (plainFor_of_name (by decide +kernel)) (by decide +kernel) (by decide +kernel) (by decide) (fun _ _ h => by rw [h.1]; rfl) (fun _ U U' hal hh h => ⟨h.1, h.2.mv hal hh⟩) (fun r U U' V V' h1 hal h2 h => XT.PureE.mv r U U' V V' h1 hal h2 h) ?_
  intro p e s m args below meth c s₁ X0 hexec hbytes hml hret hlk hnm hown hh0 W hP
  obtain ⟨rfl, hB⟩ := hP
  have hB0 := hB.mv X0.warmed.alike hh0
  have c1 : Steps p.tables e below (s₁.setTop (entryFrame m #[.ref d, .int (Int32.ofNat B.slots.size)] 2)) (s₁.setTop (mkF m 0 #[.val (.ref d), .val (.int (Int32.ofNat B.slots.size))] [])) := entry rfl
  have c2 : Steps p.tables e below (s₁.setTop (entryFrame m #[.ref d, .int (Int32.ofNat B.slots.size)] 2)) (s₁.setTop (mkF m 2 #[.val (.ref d), .val (.int (Int32.ofNat B.slots.size))] [.ref d, .int (Int32.ofNat B.slots.size)])) := c1.trans (by
    refine XS.iloadN X0.here hexec rfl (hb hbytes d0) rfl ?_
    refine XS.aloadN X0.here hexec rfl (hb hbytes d1) rfl rfl ?_
    exact Steps.refl _)
  have c3 : Steps p.tables e below (s₁.setTop (entryFrame m #[.ref d, .int (Int32.ofNat B.slots.size)] 2)) (s₁.setTop (mkF m 8 #[.val (.ref d), .val (.int (Int32.ofNat B.slots.size))] [.int (lo8 (ushr (Int32.ofNat B.slots.size - Int32.ofNat B.slots.size) 31))])) := c2.trans (by
    refine X0.alen hexec hB0 rfl rfl (hb hbytes d2) ?_
    refine XS.isub X0.here hexec rfl (hb hbytes d3) rfl ?_
    refine bipushV X0.here hexec rfl 31 (hb hbytes d4) (by decide) ?_
    refine iushr X0.here hexec rfl (hb hbytes d6) rfl ?_
    refine i2b X0.here hexec rfl (hb hbytes d7) rfl ?_
    exact Steps.refl _)
  have e0 : lo8 (ushr (Int32.ofNat B.slots.size - Int32.ofNat B.slots.size) 31) = 0 := by rw [Int32.sub_self]; decide
  rw [e0] at c3
  exact ⟨s₁, some (.int 0), _, _, _, X0, rfl, rfl, rfl, (fun h => by cases h), ⟨rfl, hh0⟩, fun fs hl => c3.trans (X0.ireturnOut hexec hret rfl (Or.inr (Or.inr (Or.inl rfl))) (hb hbytes d8) hl)⟩
end CodL
/-- the String at a is Latin-1 over a new byte[] (the heap's one new cell): the low bytes of the len chars of A from o on; every cell but a is kept -/
def Got (a : Addr) (D : Cell) (fV fC : Field) (A : Cell) (o len : Nat) (r : Option Value) (s u : State) : Prop := r = none ∧ ∃ D' V : Cell, Blank "java/lang/String" a D' u ∧ Same D D' [fV.slot, fC.slot] ∧ D'.slots[fV.slot]? = some (.ref s.heap.size) ∧ D'.slots[fC.slot]? = some (.int 0) ∧ Arr .byte s.heap.size V u ∧ V.vm = .none ∧ u.vm.findClass "[B" = some V.cls ∧ V.slots.size = len ∧ (∀ j, j < len → V.slots[j]? = some (.int (lo8 (cv A (o + j))))) ∧ (∀ (y : Addr) (c : Cell), y ≠ a → s.heap[y]? = some c → u.heap[y]? = some c) ∧ u.heap.size = s.heap.size + 1
theorem Got.mv {a : Addr} {D A : Cell} {fV fC : Field} {o len : Nat} : ∀ r (U U' V V' : State), U'.heap = U.heap → V.vm.Alike V'.vm → V'.heap = V.heap → Got a D fV fC A o len r U V → Got a D fV fC A o len r U' V' :=
  fun r U U' V V' h1 hal h2 ⟨e0, D', X, a1, a2, a3, a4, a5, a6, a7, a8, a9, a10, a11⟩ => ⟨e0, D', X, a1.mv hal h2, a2, by rw [h1]; exact a3, a4, by rw [h1]; exact a5.mv hal h2, a6, by rw [hal.findClass]; exact a7, a8, a9, by rw [h1, h2]; exact a10, by rw [h1, h2]; exact a11⟩
namespace New4
def yN : MethodName := ⟨"java/lang/String", "<init>", "([CIILjava/lang/Void;)V"⟩
abbrev yB : ByteArray := jdk_42_method_149_code
theorem d0 : decode yB 0 = .ok (.aload_n 0, 1) := by decide +kernel
theorem d1 : decode yB 1 = .ok (.invokespecial 1, 3) := by decide +kernel
theorem d4 : decode yB 4 = .ok (.iload_n 3, 1) := by decide +kernel
theorem d5 : decode yB 5 = .ok (.ifCond (.ne) 22, 3) := by decide +kernel
theorem d27 : decode yB 27 = .ok (.getstatic 38, 3) := by decide +kernel
theorem d30 : decode yB 30 = .ok (.ifCond (.eq) 28, 3) := by decide +kernel
theorem d33 : decode yB 33 = .ok (.aload_n 1, 1) := by decide +kernel
theorem d34 : decode yB 34 = .ok (.iload_n 2, 1) := by decide +kernel
theorem d35 : decode yB 35 = .ok (.iload_n 3, 1) := by decide +kernel
theorem d36 : decode yB 36 = .ok (.invokestatic 177, 3) := by decide +kernel
theorem d39 : decode yB 39 = .ok (.astore 5, 2) := by decide +kernel
theorem d41 : decode yB 41 = .ok (.aload_n 0, 1) := by decide +kernel
theorem d42 : decode yB 42 = .ok (.aload 5, 2) := by decide +kernel
theorem d44 : decode yB 44 = .ok (.iload_n 3, 1) := by decide +kernel
theorem d45 : decode yB 45 = .ok (.invokestatic 47, 3) := by decide +kernel
theorem d48 : decode yB 48 = .ok (.putfield 15, 3) := by decide +kernel
theorem d51 : decode yB 51 = .ok (.aload_n 0, 1) := by decide +kernel
theorem d52 : decode yB 52 = .ok (.aload 5, 2) := by decide +kernel
theorem d54 : decode yB 54 = .ok (.putfield 9, 3) := by decide +kernel
theorem d57 : decode yB 57 = .ok (.return_, 1) := by decide +kernel
def site : List Cond := [.fieldLink "java/lang/String" 38 "java/lang/String" "COMPACT_STRINGS" "Z", Cmp3.tab, CodL.tab, .laysFinal "java/lang/String" "java/lang/String" "value" "[B", .fieldLink "java/lang/String" 9 "java/lang/String" "value" "[B", .laysFinal "java/lang/String" "java/lang/String" "coder" "B", .fieldLink "java/lang/String" 15 "java/lang/String" "coder" "B"] ++ objW "java/lang/String" 1 ++ staticW "java/lang/String" 177 Cmp3.yN ++ staticW "java/lang/String" 47 CodL.yN
def tab : Cond := tabOf yN yB 6 none site
def P (a : Addr) (D : Cell) (fV fC : Field) (b : Addr) (A : Cell) (z : Int32) (o len : Nat) (args : Array Value) (s : State) : Prop := args = #[.ref a, .ref b, .int (Int32.ofNat o), .int (Int32.ofNat len), .null] ∧ Blank "java/lang/String" a D s ∧ Found "java/lang/String" "value" "[B" fV s ∧ Found "java/lang/String" "coder" "B" fC s ∧ Ch b A s ∧ StaticIs s "java/lang/String" "COMPACT_STRINGS" "Z" (.int z) ∧ ¬ z = 0 ∧ 0 < len ∧ o + len ≤ A.slots.size ∧ len ≤ 536870912 ∧ ∀ i, i < len → ¬ 255 < cv A (o + i)
def E (a : Addr) (D : Cell) (fV fC : Field) (A : Cell) (o len : Nat) (r : Option Value) (s u : State) : Prop := Got a D fV fC A o len r s u
/-- len > 0, no char of the range above 255: a Latin-1 String of their low bytes -/
theorem law (l : Launch) (a : Addr) (D : Cell) (fV fC : Field) (b : Addr) (A : Cell) (z : Int32) (o len : Nat) : Law l yN 5 4 2 35 yB 6 none site (P a D fV fC b A z o len) (E a D fV fC A o len) [⟨a, fC.slot⟩, ⟨a, fV.slot⟩] 1 len := by
  refine Law.of_walk (plainFor_of_name (by decide +kernel)) (by decide +kernel) (by decide +kernel) (by decide) (fun _ _ h => by rw [h.1]; rfl) (fun _ U U' hal hh h => ⟨h.1, h.2.1.mv hal hh, h.2.2.1.al hal, h.2.2.2.1.al hal, h.2.2.2.2.1.mv hal hh, h.2.2.2.2.2.1.there hal hh, h.2.2.2.2.2.2⟩) (fun r U U' V V' h1 hal h2 h => Got.mv r U U' V V' h1 hal h2 h) ?_
  intro p e s m args below meth c s₁ X0 hexec hbytes hml hret hlk hnm hown hh0 W hP
  obtain ⟨rfl, hB, f1, f2, hA, s1, hz, l0, l1, l2, hp⟩ := hP
  have a31 := hA.1.2.2.2
  have c1 : Steps p.tables e below (s₁.setTop (entryFrame m #[.ref a, .ref b, .int (Int32.ofNat o), .int (Int32.ofNat len), .null] 6)) (s₁.setTop (mkF m 0 #[.val (.ref a), .val (.ref b), .val (.int (Int32.ofNat o)), .val (.int (Int32.ofNat len)), .val .null, .unset] [])) := entry rfl
  have c2 : Steps p.tables e below (s₁.setTop (entryFrame m #[.ref a, .ref b, .int (Int32.ofNat o), .int (Int32.ofNat len), .null] 6)) (s₁.setTop (mkF m 1 #[.val (.ref a), .val (.ref b), .val (.int (Int32.ofNat o)), .val (.int (Int32.ofNat len)), .val .null, .unset] [.ref a])) := c1.trans (by
    refine XS.aloadN X0.here hexec rfl (hb hbytes d0) rfl rfl ?_
    exact Steps.refl _)
  obtain ⟨T3, X3, q3, st3⟩ := X0.oinit hexec hown (wks W (objW "java/lang/String" 1)) (g := (mkF m 1 #[.val (.ref a), .val (.ref b), .val (.int (Int32.ofNat o)), .val (.int (Int32.ofNat len)), .val .null, .unset] [.ref a])) rfl (by rw [hml]; rfl) (rest := []) rfl (hb hbytes d1) (W := 0) (by show 2 * 0 + 0 ≤ _; decide) (Nat.le_of_ble_eq_true rfl) (Nat.le_of_ble_eq_true rfl)
  have hh3 := q3.trans hh0
  have c4 : Steps p.tables e below (s₁.setTop (entryFrame m #[.ref a, .ref b, .int (Int32.ofNat o), .int (Int32.ofNat len), .null] 6)) (T3.setTop (mkF m 27 #[.val (.ref a), .val (.ref b), .val (.int (Int32.ofNat o)), .val (.int (Int32.ofNat len)), .val .null, .unset] [])) := (c2.trans (st3 _ (Steps.refl _))).trans (by
    refine XS.iloadN X3.here hexec rfl (hb hbytes d4) rfl ?_
    refine XS.ifYes X3.here hexec rfl (pc0 := 5) rfl (hb hbytes d5) rfl (i0_ne_t (nz32 (by omega) l0)) (by decide) rfl ?_
    exact Steps.refl _)
  obtain ⟨T5, X5, q5, st5⟩ := X3.sget hexec hown (wk W (.fieldLink "java/lang/String" 38 "java/lang/String" "COMPACT_STRINGS" "Z")) s1 (fun _ _ h => by rw [hh3]; exact h) (g := (mkF m 27 #[.val (.ref a), .val (.ref b), .val (.int (Int32.ofNat o)), .val (.int (Int32.ofNat len)), .val .null, .unset] [])) rfl (hb hbytes d27)
  have hh5 := q5.trans hh3
  have c6 : Steps p.tables e below (s₁.setTop (entryFrame m #[.ref a, .ref b, .int (Int32.ofNat o), .int (Int32.ofNat len), .null] 6)) (T5.setTop (mkF m 30 #[.val (.ref a), .val (.ref b), .val (.int (Int32.ofNat o)), .val (.int (Int32.ofNat len)), .val .null, .unset] [.int z])) := c4.trans (st5 _ (Steps.refl _))
  have c7 : Steps p.tables e below (s₁.setTop (entryFrame m #[.ref a, .ref b, .int (Int32.ofNat o), .int (Int32.ofNat len), .null] 6)) (T5.setTop (mkF m 36 #[.val (.ref a), .val (.ref b), .val (.int (Int32.ofNat o)), .val (.int (Int32.ofNat len)), .val .null, .unset] [.int (Int32.ofNat len), .int (Int32.ofNat o), .ref b])) := c6.trans (by
    refine XS.ifNo X5.here hexec rfl (hb hbytes d30) rfl (i0_eq_f hz) ?_
    refine XS.aloadN X5.here hexec rfl (hb hbytes d33) rfl rfl ?_
    refine XS.iloadN X5.here hexec rfl (hb hbytes d34) rfl ?_
    refine XS.iloadN X5.here hexec rfl (hb hbytes d35) rfl ?_
    exact Steps.refl _)
  obtain ⟨v8, T8, X8, E8, g8⟩ := X5.callS hexec (Cmp3.law l b A o len) hown (wks W (staticW "java/lang/String" 177 Cmp3.yN)) (wk W Cmp3.tab) (W := 0) (Nat.le_of_ble_eq_true rfl) (Nat.le_of_ble_eq_true rfl) (Nat.le_refl _) (by show 0 + len ≤ len; omega) (g := (mkF m 36 #[.val (.ref a), .val (.ref b), .val (.int (Int32.ofNat o)), .val (.int (Int32.ofNat len)), .val .null, .unset] [.int (Int32.ofNat len), .int (Int32.ofNat o), .ref b])) rfl (by rw [hml]; rfl) c7 (argsL := [.ref b, .int (Int32.ofNat o), .int (Int32.ofNat len)]) (rest := []) rfl rfl (by show 2 * 0 + 0 ≤ _; decide) (hb hbytes d36) (⟨rfl, hA.mv X5.warmed.alike hh5, l1, l2, hp⟩)
  obtain ⟨e8, z8⟩ := E8
  obtain ⟨rfl, N, n1, n2, n3, n4, n5, n6⟩ := NewArr.mv _ T5 s _ _ hh5.symm (Vm.Alike.refl _) rfl e8
  rw [hh5] at z8
  have hB1 := hB.keep X8.warmed.alike (n6 _ _ hB.1)
  have hne : s.heap.size ≠ a := (Nat.ne_of_lt (Array.getElem?_eq_some_iff.mp hB.1).1).symm
  have c9 : Steps p.tables e below (s₁.setTop (entryFrame m #[.ref a, .ref b, .int (Int32.ofNat o), .int (Int32.ofNat len), .null] 6)) (T8.setTop (mkF m 39 #[.val (.ref a), .val (.ref b), .val (.int (Int32.ofNat o)), .val (.int (Int32.ofNat len)), .val .null, .unset] [.ref s.heap.size])) := g8
  have c10 : Steps p.tables e below (s₁.setTop (entryFrame m #[.ref a, .ref b, .int (Int32.ofNat o), .int (Int32.ofNat len), .null] 6)) (T8.setTop (mkF m 45 #[.val (.ref a), .val (.ref b), .val (.int (Int32.ofNat o)), .val (.int (Int32.ofNat len)), .val .null, .val (.ref s.heap.size)] [.int (Int32.ofNat N.slots.size), .ref s.heap.size, .ref a])) := by
    have hc : Steps p.tables e below (s₁.setTop (entryFrame m #[.ref a, .ref b, .int (Int32.ofNat o), .int (Int32.ofNat len), .null] 6)) (T8.setTop (mkF m 45 #[.val (.ref a), .val (.ref b), .val (.int (Int32.ofNat o)), .val (.int (Int32.ofNat len)), .val .null, .val (.ref s.heap.size)] [.int (Int32.ofNat len), .ref s.heap.size, .ref a])) := c9.trans (by
      refine XS.astore X8.here hexec rfl (hb hbytes d39) rfl rfl rfl ?_
      refine XS.aloadN X8.here hexec rfl (hb hbytes d41) rfl rfl ?_
      refine XS.aload X8.here hexec rfl (hb hbytes d42) rfl rfl ?_
      refine XS.iloadN X8.here hexec rfl (hb hbytes d44) rfl ?_
      exact Steps.refl _)
    rw [n4]; exact hc
  obtain ⟨v11, T11, X11, E11, g11⟩ := X8.callS hexec (CodL.law l s.heap.size N) hown (wks W (staticW "java/lang/String" 47 CodL.yN)) (wk W CodL.tab) (W := 1) (Nat.le_of_ble_eq_true rfl) (Nat.le_of_ble_eq_true rfl) (Nat.le_refl _) (by show 0 + len + 0 ≤ len; omega) (g := (mkF m 45 #[.val (.ref a), .val (.ref b), .val (.int (Int32.ofNat o)), .val (.int (Int32.ofNat len)), .val .null, .val (.ref s.heap.size)] [.int (Int32.ofNat N.slots.size), .ref s.heap.size, .ref a])) rfl (by rw [hml]; rfl) c10 (argsL := [.ref s.heap.size, .int (Int32.ofNat N.slots.size)]) (rest := [.ref a]) rfl rfl (by show 2 * 0 + (1 + 0) ≤ _; decide) (hb hbytes d45) (⟨rfl, n1⟩)
  obtain ⟨rfl, q11⟩ := E11
  have hB11 := hB1.mv (X8.warmed.alike.symm.trans X11.warmed.alike) q11
  have c12 : Steps p.tables e below (s₁.setTop (entryFrame m #[.ref a, .ref b, .int (Int32.ofNat o), .int (Int32.ofNat len), .null] 6)) (T11.setTop (mkF m 48 #[.val (.ref a), .val (.ref b), .val (.int (Int32.ofNat o)), .val (.int (Int32.ofNat len)), .val .null, .val (.ref s.heap.size)] [.int 0, .ref a])) := g11
  obtain ⟨T13, X13, p13, bl13, sl13, st13⟩ := X11.finit hexec hown (wk W (.fieldLink "java/lang/String" 15 "java/lang/String" "coder" "B")) (Or.inr ⟨_, (wk W (.laysFinal "java/lang/String" "java/lang/String" "coder" "B"))⟩) (Or.inl ⟨rfl, hnm⟩) f2 (Or.inl rfl) hB11 (t := .byte) (by decide +kernel) rfl (g := (mkF m 48 #[.val (.ref a), .val (.ref b), .val (.int (Int32.ofNat o)), .val (.int (Int32.ofNat len)), .val .null, .val (.ref s.heap.size)] [.int 0, .ref a])) rfl (rest := []) rfl (hb hbytes d48)
  have c14 : Steps p.tables e below (s₁.setTop (entryFrame m #[.ref a, .ref b, .int (Int32.ofNat o), .int (Int32.ofNat len), .null] 6)) (T13.setTop (mkF m 54 #[.val (.ref a), .val (.ref b), .val (.int (Int32.ofNat o)), .val (.int (Int32.ofNat len)), .val .null, .val (.ref s.heap.size)] [.ref s.heap.size, .ref a])) := (c12.trans (st13 _ (Steps.refl _))).trans (by
    refine XS.aloadN X13.here hexec rfl (hb hbytes d51) rfl rfl ?_
    refine XS.aload X13.here hexec rfl (hb hbytes d52) rfl rfl ?_
    exact Steps.refl _)
  obtain ⟨T15, X15, p15, bl15, sl15, st15⟩ := X13.finit hexec hown (wk W (.fieldLink "java/lang/String" 9 "java/lang/String" "value" "[B")) (Or.inr ⟨_, (wk W (.laysFinal "java/lang/String" "java/lang/String" "value" "[B"))⟩) (Or.inl ⟨rfl, hnm⟩) f1 (Or.inl rfl) bl13 (t := (.array .byte)) (by decide +kernel) rfl (g := (mkF m 54 #[.val (.ref a), .val (.ref b), .val (.int (Int32.ofNat o)), .val (.int (Int32.ofNat len)), .val .null, .val (.ref s.heap.size)] [.ref s.heap.size, .ref a])) rfl (rest := []) rfl (hb hbytes d54)
  have c16 : Steps p.tables e below (s₁.setTop (entryFrame m #[.ref a, .ref b, .int (Int32.ofNat o), .int (Int32.ofNat len), .null] 6)) (T15.setTop (mkF m 57 #[.val (.ref a), .val (.ref b), .val (.int (Int32.ofNat o)), .val (.int (Int32.ofNat len)), .val .null, .val (.ref s.heap.size)] [])) := c14.trans (st15 _ (Steps.refl _))
  have ap := apart (Or.inr ⟨_, (wk W (.laysFinal "java/lang/String" "java/lang/String" "value" "[B"))⟩) (Or.inr ⟨_, (wk W (.laysFinal "java/lang/String" "java/lang/String" "coder" "B"))⟩) f1 f2 (t₁ := .array .byte) (t₂ := .byte) (by decide +kernel) (by decide +kernel) (by decide)
  have al := X8.warmed.alike.symm.trans X15.warmed.alike
  have n7 : T11.heap[s.heap.size]? = some N := by rw [q11]; exact n1.1
  exact ⟨T15, none, _, _, _, X15, by simp, rfl, by omega, (fun _ => rfl), ⟨rfl, _, N, bl15, ((Same.refl D _).set _ (by simp)).set _ (by simp), sl15, (Cell.slots_setSlot_ne _ ap).trans sl13, n1.keep al (p15.other hne (p13.other hne n7)), n2, by rw [al.findClass]; exact n3, n4, n5, fun y c h1 h2 => p15.other h1 (p13.other h1 (by rw [q11]; exact n6 y c h2)), by rw [p15.2.2, p13.2.2, q11]; exact z8⟩, fun fs hl => c16.trans (X15.returnOut hexec hret (hb hbytes d57) hl)⟩
end New4
namespace New1
def yN : MethodName := ⟨"java/lang/String", "<init>", "([C)V"⟩
abbrev yB : ByteArray := jdk_42_method_3_code
theorem d0 : decode yB 0 = .ok (.aload_n 0, 1) := by decide +kernel
theorem d1 : decode yB 1 = .ok (.aload_n 1, 1) := by decide +kernel
theorem d2 : decode yB 2 = .ok (.iconst 0, 1) := by decide +kernel
theorem d3 : decode yB 3 = .ok (.aload_n 1, 1) := by decide +kernel
theorem d4 : decode yB 4 = .ok (.arraylength, 1) := by decide +kernel
theorem d5 : decode yB 5 = .ok (.aconst_null, 1) := by decide +kernel
theorem d6 : decode yB 6 = .ok (.invokespecial 27, 3) := by decide +kernel
theorem d9 : decode yB 9 = .ok (.return_, 1) := by decide +kernel
def site : List Cond := [New4.tab] ++ initW "java/lang/String" 27 New4.yN
def tab : Cond := tabOf yN yB 2 none site
def P (a : Addr) (D : Cell) (fV fC : Field) (b : Addr) (A : Cell) (z : Int32) (args : Array Value) (s : State) : Prop := args = #[.ref a, .ref b] ∧ Blank "java/lang/String" a D s ∧ Found "java/lang/String" "value" "[B" fV s ∧ Found "java/lang/String" "coder" "B" fC s ∧ Ch b A s ∧ StaticIs s "java/lang/String" "COMPACT_STRINGS" "Z" (.int z) ∧ ¬ z = 0 ∧ 0 < A.slots.size ∧ A.slots.size ≤ 536870912 ∧ ∀ i, i < A.slots.size → ¬ 255 < cv A i
def E (a : Addr) (D : Cell) (fV fC : Field) (A : Cell) (r : Option Value) (s u : State) : Prop := Got a D fV fC A 0 A.slots.size r s u
/-- new String(chars), not empty, no char above 255: a Latin-1 String of their low bytes -/
theorem law (l : Launch) (a : Addr) (D : Cell) (fV fC : Field) (b : Addr) (A : Cell) (z : Int32) : Law l yN 2 1 3 52 yB 2 none site (P a D fV fC b A z) (E a D fV fC A) [⟨a, fC.slot⟩, ⟨a, fV.slot⟩] 1 A.slots.size := by
  refine Law.of_walk (plainFor_of_name (by decide +kernel)) (by decide +kernel) (by decide +kernel) (by decide) (fun _ _ h => by rw [h.1]; rfl) (fun _ U U' hal hh h => ⟨h.1, h.2.1.mv hal hh, h.2.2.1.al hal, h.2.2.2.1.al hal, h.2.2.2.2.1.mv hal hh, h.2.2.2.2.2.1.there hal hh, h.2.2.2.2.2.2⟩) (fun r U U' V V' h1 hal h2 h => Got.mv r U U' V V' h1 hal h2 h) ?_
  intro p e s m args below meth c s₁ X0 hexec hbytes hml hret hlk hnm hown hh0 W hP
  obtain ⟨rfl, hB, f1, f2, hA, s1, hz, l0, l2, hp⟩ := hP
  have c1 : Steps p.tables e below (s₁.setTop (entryFrame m #[.ref a, .ref b] 2)) (s₁.setTop (mkF m 0 #[.val (.ref a), .val (.ref b)] [])) := entry rfl
  have c2 : Steps p.tables e below (s₁.setTop (entryFrame m #[.ref a, .ref b] 2)) (s₁.setTop (mkF m 6 #[.val (.ref a), .val (.ref b)] [.null, .int (Int32.ofNat A.slots.size), .int 0, .ref b, .ref a])) := c1.trans (by
    refine XS.aloadN X0.here hexec rfl (hb hbytes d0) rfl rfl ?_
    refine XS.aloadN X0.here hexec rfl (hb hbytes d1) rfl rfl ?_
    refine iconstV X0.here hexec rfl 0 (hb hbytes d2) (by decide) ?_
    refine XS.aloadN X0.here hexec rfl (hb hbytes d3) rfl rfl ?_
    refine X0.alen hexec (hA.1.mv X0.warmed.alike hh0) rfl rfl (hb hbytes d4) ?_
    refine XS.aconstNull X0.here hexec rfl (hb hbytes d5) ?_
    exact Steps.refl _)
  obtain ⟨v3, T3, X3, E3, g3⟩ := X0.callN hexec (New4.law l a D fV fC b A z 0 A.slots.size) rfl hown (wks W (initW "java/lang/String" 27 New4.yN)) (W New4.tab (by simp only [site, List.mem_cons, List.mem_append, true_or, or_true])) (W := 0) (Nat.le_of_ble_eq_true rfl) (Nat.le_of_ble_eq_true rfl) (Nat.le_refl _) (by show 0 + A.slots.size ≤ A.slots.size; omega) (g := (mkF m 6 #[.val (.ref a), .val (.ref b)] [.null, .int (Int32.ofNat A.slots.size), .int (Int32.ofNat 0), .ref b, .ref a])) rfl (by rw [hml]; rfl) c2 (argsL := [.ref b, .int (Int32.ofNat 0), .int (Int32.ofNat A.slots.size), .null]) (rest := []) rfl rfl (by show 2 * 0 + 0 ≤ _; decide) (hb hbytes d6) (⟨rfl, hB.mv X0.warmed.alike hh0, f1.al X0.warmed.alike, f2.al X0.warmed.alike, hA.mv X0.warmed.alike hh0, s1.there X0.warmed.alike hh0, hz, l0, by omega, l2, fun i hi => by rw [Nat.zero_add]; exact hp i hi⟩)
  have e0 := Got.mv _ s₁ s _ _ hh0.symm (Vm.Alike.refl _) rfl E3
  obtain rfl := e0.1
  have c4 : Steps p.tables e below (s₁.setTop (entryFrame m #[.ref a, .ref b] 2)) (T3.setTop (mkF m 9 #[.val (.ref a), .val (.ref b)] [])) := g3
  exact ⟨T3, none, _, _, _, X3, by simp, rfl, by omega, (fun _ => rfl), e0, fun fs hl => c4.trans (X3.returnOut hexec hret (hb hbytes d9) hl)⟩
theorem pays {l : Launch} {R : Room} {p : Program} {e : Env} {below : List Frame} {s : State} {sargs : Array Value} {len W : Nat} (a : Addr) (D : Cell) (fV fC : Field) (b : Addr) (A : Cell) (z : Int32) (htab : tab.before sargs s = true) (hfr : 4 ≤ R.frames) (hlo : W + 65 ≤ R.locals) :
    Back l R p e below s sargs yN len W (fun A₁ a₁ => A₁.cells + 1 ≤ R.cells ∧ A₁.slots + A.slots.size ≤ R.slots ∧ P a D fV fC b A z a₁ A₁.U) (fun A₁ _ v₁ B₁ => E a D fV fC A v₁ A₁.U B₁.U ∧ B₁.locs = A₁.locs ++ [⟨a, fC.slot⟩, ⟨a, fV.slot⟩] ∧ B₁.cells = A₁.cells + 1 ∧ B₁.slots = A₁.slots + A.slots.size) :=
  (law l a D fV fC b A z).pays htab hfr (by omega)
end New1
end StrChars
namespace StrChars.Road
open Jvm Sem ClassFile Op Lib Jvm.Stand Jvm.Free Jvm.Free.XT
open Jvm.Lib.Cold (StaticIs)
abbrev ST : String := "java/lang/String"
/-- every table word that New1's law asks, flat -/
abbrev words : List Jvm.Cond := [.code New1.yN New1.yB 2 none, .initialized ST, .methodLink ST 27 New4.yN, .instanceMethod New4.yN,
  .code New4.yN New4.yB 6 none, .fieldLink ST 38 ST "COMPACT_STRINGS" "Z", .laysFinal ST ST "value" "[B", .fieldLink ST 9 ST "value" "[B", .laysFinal ST ST "coder" "B", .fieldLink ST 15 ST "coder" "B",
  .methodLink ST 1 Lib.objectInit, .instanceMethod Lib.objectInit, .code Lib.objectInit ⟨#[0xb1]⟩ 1 none, .methodLink ST 177 Cmp3.yN, .static Cmp3.yN, .methodLink ST 47 CodL.yN, .static CodL.yN,
  .code Cmp3.yN Cmp3.yB 6 (some (.array .byte)), .initialized U16, .arrayClass .byte, .methodLink U16 115 Cmp5.yN, .static Cmp5.yN, .code Cmp5.yN Cmp5.yB 7 (some .int), .code CodL.yN CodL.yB 2 (some .byte)]
theorem tab_of {a : Array Value} {s : State} (h : ∀ w ∈ words, w.before a s = true) : New1.tab.before a s = true := by
  have h5 : Cmp5.tab.before a s = true := unparts (wk h (.code Cmp5.yN Cmp5.yB 7 (some .int))) (wks h (.initialized Cmp5.yN.cls :: Cmp5.site))
  have hc : CodL.tab.before a s = true := unparts (wk h (.code CodL.yN CodL.yB 2 (some .byte))) (wks h (.initialized CodL.yN.cls :: CodL.site))
  have q5 : ∀ w ∈ Cmp5.tab :: words, w.before a s = true := fun w hw => (List.mem_cons.mp hw).elim (fun e => e ▸ h5) (h w)
  have h3 : Cmp3.tab.before a s = true := unparts (wk q5 (.code Cmp3.yN Cmp3.yB 6 (some (.array .byte)))) (wks q5 (.initialized Cmp3.yN.cls :: Cmp3.site))
  have q3 : ∀ w ∈ Cmp3.tab :: CodL.tab :: words, w.before a s = true := fun w hw => (List.mem_cons.mp hw).elim (fun e => e ▸ h3) fun hw => (List.mem_cons.mp hw).elim (fun e => e ▸ hc) (h w)
  have h4 : New4.tab.before a s = true := unparts (wk q3 (.code New4.yN New4.yB 6 none)) (wks q3 (.initialized New4.yN.cls :: New4.site))
  have q4 : ∀ w ∈ New4.tab :: words, w.before a s = true := fun w hw => (List.mem_cons.mp hw).elim (fun e => e ▸ h4) (h w)
  exact unparts (wk q4 (.code New1.yN New1.yB 2 none)) (wks q4 (.initialized New1.yN.cls :: New1.site))
/-- the words ride from the start Z to the walk's own state -/
theorem moved {Z s : State} {a0 args : Array Value} (hZ : Z.Warmed39 s.vm) (hw : ∀ d ∈ words, d.before a0 Z = true) : ∀ d ∈ words, d.before args s = true := fun d hd => by
  have q := hw d hd
  have t : ∀ d ∈ words, d = .arrayClass .byte ∨ (d.onTables && d.keepsFace) = true := by decide +kernel
  rcases t d hd with rfl | t
  · exact RoadKit.mvA hZ q
  · exact RoadKit.mv hZ q t
/-- WHAT COMES BACK, over the tables of the start Z: h the heap at the call, h' behind it -/
def Q (Z : State) (x : Addr) (A : Cell) (h : Heap) (v : Option Value) (h' : Heap) (L : List Loc) : Prop := v = none ∧ (∀ y ∈ L, y.base = x) ∧ RoadKit.Keep h h' [x] ∧ h'.size = h.size + 1 ∧ RoadKit.Exa Z h' x ST ∧ RoadKit.Fld Z h' x ST "value" "[B" (.ref h.size) ∧ RoadKit.Fld Z h' x ST "coder" "B" (.int 0) ∧
  (∃ V : Cell, RoadKit.Arr Z h' h.size V .byte ∧ V.vm = .none ∧ Z.vm.findClass "[B" = some V.cls ∧ V.slots.size = A.slots.size ∧ ∀ j, j < A.slots.size → V.slots[j]? = some (.int (lo8 (cv A j)))) ∧
  ∀ (O n d : String) (w : Value), RoadKit.Fld Z h x O n d w → RoadKit.slotOf Z O n d ≠ RoadKit.slotOf Z ST "value" "[B" → RoadKit.slotOf Z O n d ≠ RoadKit.slotOf Z ST "coder" "B" → RoadKit.Fld Z h' x O n d w
/-- **new String(chars) AT A CALL, IN THE ROAD'S FORM**: for specialBack behind newO: x the fresh String, b the char[] with the cell A -/
theorem back {p : Program} {l : Launch} {e : Env} {R : Room} {s : State} {args : Array Value} {below : List Frame} {len W : Nat} {Z : State} {a0 : Array Value} {h : Heap} (hZ : Z.Warmed39 s.vm) (hw : ∀ d ∈ words, d.before a0 Z = true) {kI : Nat} (wi : (Jvm.Cond.instantiable ST kI).before a0 Z = true)
    {x b : Addr} {A : Cell} {z : Int32} {v0 c0 : Value} (E : RoadKit.Exa Z h x ST) (V : RoadKit.Fld Z h x ST "value" "[B" v0) (C : RoadKit.Fld Z h x ST "coder" "B" c0) (K : RoadKit.Arr Z h b A .char) (hty : Typed .char A) (S : RoadKit.Sta Z h ST "COMPACT_STRINGS" "Z" (.int z)) (hz : ¬ z = 0)
    (l0 : 0 < A.slots.size) (l2 : A.slots.size ≤ 536870912) (hp : ∀ i, i < A.slots.size → ¬ 255 < cv A i) (hfr : 4 ≤ R.frames) (hlo : W + 65 ≤ R.locals) :
    Back l R p e below s args New1.yN len W (fun P a => a = #[.ref x, .ref b] ∧ P.U.heap = h ∧ P.cells + 1 ≤ R.cells ∧ P.slots + A.slots.size ≤ R.slots)
      (fun P _ v B => ∃ L, Q Z x A h v B.U.heap L ∧ B.locs = P.locs ++ L ∧ B.cells = P.cells + 1 ∧ B.slots = P.slots + A.slots.size) := by
  intro m meth c P g ig mk a X hg hsize hdg hW hn hp'
  obtain ⟨rfl, rfl, r1, r2⟩ := hp'
  have al : Z.vm.Alike P.U.vm := hZ.alike.trans X.warmed.alike
  obtain ⟨D, cfV, kV, iV, fV, hD, gV, stV, knV, obV, asV, slV⟩ := id V
  obtain ⟨D', cfC, kC, iC, fC, hD', gC, stC, -, -, asC, slC⟩ := id C
  cases hD.symm.trans hD'
  obtain ⟨D2, kD, e1, e2, e3, e4, e5⟩ := id E
  cases hD.symm.trans e1
  obtain ⟨c2, k2, i1, i2, i3, -⟩ := Cond.instantiable_spec wi
  cases e2.symm.trans i1
  cases e3.symm.trans i2
  obtain ⟨kU, u1, u2⟩ := al.2.2 _ _ e3
  have hB : Blank ST x D P.U := ⟨hD, ⟨knV, fun q hq => by rw [hq] at obV; cases obV⟩, by rw [al.findClass]; exact e2, kU, u1, by rw [u2]; exact i3, by rw [u2]; exact e5 i3⟩
  have F1 : Found ST "value" "[B" fV P.U := ⟨SBG.found_only al ⟨cfV, kV, iV, gV⟩, stV⟩
  have F2 : Found ST "coder" "B" fC P.U := ⟨SBG.found_only al ⟨cfC, kC, iC, gC⟩, stC⟩
  have hA : Ch b A P.U := ⟨⟨K.1, State.isArrayOf_alike al K.2.1, K.2.2, by omega⟩, hty⟩
  have hS : StaticIs P.U ST "COMPACT_STRINGS" "Z" (.int z) := by
    obtain ⟨cfS, iS, kS, fS, st, cS, t1, t2, t3, t4, t5, t6, t7⟩ := S
    exact StaticIs.there (s := { Z with heap := P.U.heap }) ⟨cfS, iS, kS, fS, st, cS, t1, t2, t3, t4, t5, (fun q => by rw [q] at t6; cases t6), t7⟩ al rfl
  obtain ⟨v, B, X', ⟨⟨hv, E', V', q1, q2, q3, q4, q5, q6, q7, q8, q9, q10, q11⟩, hl, hc, hs⟩, st⟩ := New1.pays x D fV fC b A z (tab_of (moved hZ hw)) hfr hlo m meth c P g ig mk _ X hg hsize hdg hW hn ⟨r1, r2, rfl, hB, F1, F2, hA, hS, hz, l0, l2, hp⟩
  have al' : Z.vm.Alike B.U.vm := hZ.alike.trans X'.warmed.alike
  have hsz : E'.slots.size = D.slots.size := by
    obtain ⟨-, -, -, kB, w1, w2, w3⟩ := q1
    obtain ⟨kB', y1, y2⟩ := al'.2.2 _ _ e3
    rw [q2.2.1] at w1
    cases w1.symm.trans y1
    rw [w3, e5 i3, y2]
  refine ⟨v, B, X', ⟨_, ⟨hv, ?_, ⟨by omega, fun y cy hy hn' => q10 y cy (by simpa using hn') hy, fun y cy hy => ?_⟩, q11, ⟨E', _, q1.1, by rw [q2.2.1]; exact e2, by rw [q2.2.1]; exact e3, by rw [q2.1]; exact obV, fun _ => by rw [hsz]; exact e5 i3⟩,
    ⟨E', cfV, kV, iV, fV, q1.1, gV, stV, by rw [q2.1]; exact knV, by rw [q2.1]; exact obV, by rw [q2.2.1]; exact asV, q3⟩, ⟨E', cfC, kC, iC, fC, q1.1, gC, stC, by rw [q2.1]; exact knV, by rw [q2.1]; exact obV, by rw [q2.2.1]; exact asC, q4⟩,
    ⟨V', ⟨q5.1, State.isArrayOf_alike al'.symm q5.2.1, q5.2.2.1⟩, q6, by rw [← al'.findClass]; exact q7, q8, fun j hj => by have := q9 j hj; rwa [Nat.zero_add] at this⟩, fun O n d w F n1 n2 => ?_⟩, hl, hc, hs⟩, st⟩
  · intro y hy
    simp only [List.mem_cons, List.not_mem_nil, or_false] at hy
    rcases hy with rfl | rfl <;> rfl
  · by_cases q : y = x
    · subst q
      cases hD.symm.trans hy
      exact ⟨E', q1.1, q2.2.1, q2.1, hsz⟩
    · exact ⟨cy, q10 y cy q hy, rfl, rfl, rfl⟩
  · obtain ⟨D3, cf, k, i, f, g1, g2, g3, g4, g5, g6, g7⟩ := F
    cases hD.symm.trans g1
    simp only [RoadKit.slotOf, g2, gV, gC, Option.map_some, Option.getD_some] at n1 n2
    exact ⟨E', cf, k, i, f, q1.1, g2, g3, by rw [q2.1]; exact g4, by rw [q2.1]; exact g5, by rw [q2.2.1]; exact g6, by rw [q2.2.2 f.slot (by simp [n1, n2])]; exact g7⟩
end StrChars.Road
namespace StrChars.Road
open Jvm Sem ClassFile Op Lib Jvm.Stand Jvm.Free Jvm.Free.XT
/-- WHAT COMES BACK, the byte[] as a list of values -/
def QA (Z : State) (x : Addr) (zn : Int32) (cs : List Int32) (h : Heap) (v : Option Value) (h' : Heap) (L : List Loc) : Prop := v = none ∧ (∀ y ∈ L, y.base = x) ∧ RoadKit.Keep h h' [x] ∧ h'.size = h.size + 1 ∧ RoadKit.Exa Z h' x ST ∧ RoadKit.Fld Z h' x ST "value" "[B" (.ref h.size) ∧ RoadKit.Fld Z h' x ST "coder" "B" (.int 0) ∧
  (∃ kb, Z.vm.findClass "[B" = some kb ∧ RoadKit.Arv Z h' h.size kb .byte zn (cs.map fun c => .int (lo8 c)) (.int 0)) ∧
  ∀ (O n d : String) (w : Value), RoadKit.Fld Z h x O n d w → RoadKit.slotOf Z O n d ≠ RoadKit.slotOf Z ST "value" "[B" → RoadKit.slotOf Z O n d ≠ RoadKit.slotOf Z ST "coder" "B" → RoadKit.Fld Z h' x O n d w
/-- **new String(chars) AT A CALL, THE ARRAYS AS LISTS**: the char[] at b holds cs, not empty, no char above 255 -/
theorem backArv {p : Program} {l : Launch} {e : Env} {R : Room} {s : State} {args : Array Value} {below : List Frame} {len W : Nat} {Z : State} {a0 : Array Value} {h : Heap} (hZ : Z.Warmed39 s.vm) (hw : ∀ d ∈ words, d.before a0 Z = true) {kI : Nat} (wi : (Jvm.Cond.instantiable ST kI).before a0 Z = true)
    {x b : Addr} {k : ClassId} {zn z : Int32} {cs : List Int32} {dv v0 c0 : Value} (E : RoadKit.Exa Z h x ST) (V : RoadKit.Fld Z h x ST "value" "[B" v0) (C : RoadKit.Fld Z h x ST "coder" "B" c0) (K : RoadKit.Arv Z h b k .char zn (cs.map Value.int) dv) (S : RoadKit.Sta Z h ST "COMPACT_STRINGS" "Z" (.int z)) (hz : ¬ z = 0)
    (hlen : zn.toNatClampNeg = cs.length) (h0 : 0 < cs.length) (hbig : cs.length ≤ 536870912) (hall : ∀ c ∈ cs, ¬ 255 < c) (hfr : 4 ≤ R.frames) (hlo : W + 65 ≤ R.locals) :
    Back l R p e below s args New1.yN len W (fun P a => a = #[.ref x, .ref b] ∧ P.U.heap = h ∧ P.cells + 1 ≤ R.cells ∧ P.slots + cs.length ≤ R.slots)
      (fun P _ v B => ∃ L, QA Z x zn cs h v B.U.heap L ∧ B.locs = P.locs ++ L ∧ B.cells = P.cells + 1 ∧ B.slots = P.slots + cs.length) := by
  obtain ⟨A, K1, K2, K3, K4, K5, K6⟩ := K
  have e : A.slots.size = cs.length := K3.trans hlen
  have hat : ∀ (i : Nat) (hi : i < cs.length), A.slots[i]? = some (.int cs[i]) := fun i hi => by rw [K5 i (by omega)]; simp [List.getD_eq_getElem?_getD, hi]
  have hcv : ∀ (i : Nat) (hi : i < cs.length), cv A i = cs[i] := fun i hi => by unfold cv; rw [hat i hi]
  have hty : Typed .char A := fun i v hv => by
    have hi : i < A.slots.size := (Array.getElem?_eq_some_iff.mp hv).1
    have q := K5 i hi
    rw [hv] at q
    rw [Option.some.inj q]
    exact K6 i hi
  refine Back.mono (back hZ hw wi E V C K1 hty S hz (by omega) (by omega) (fun i hi => by rw [hcv i (by omega)]; exact hall _ (List.getElem_mem _)) hfr hlo) (fun P a hp => ⟨hp.1, hp.2.1, hp.2.2.1, by rw [e]; exact hp.2.2.2⟩) (fun P a v B hp hq => ?_)
  obtain ⟨L, ⟨q1, q2, q3, q4, q5, q6, q7, ⟨V', v1, v2, v3, v4, v5⟩, q9⟩, hl, hc, hs⟩ := hq
  refine ⟨L, ⟨q1, q2, q3, q4, q5, q6, q7, ⟨V'.cls, v3, V', v1, rfl, by rw [v4, e, hlen], K4, fun i hi => ?_, fun i hi => ?_⟩, q9⟩, hl, hc, by rw [hs, e]⟩
  · have hi' : i < cs.length := by omega
    rw [v5 i (by omega), hcv i hi']; simp [List.getD_eq_getElem?_getD, hi']
  · have hi' : i < cs.length := by omega
    simp only [List.getD_eq_getElem?_getD, List.getElem?_map, List.getElem?_eq_getElem hi', Option.map_some, Option.getD_some]
    exact fits_lo8 _
end StrChars.Road
namespace StrChars.Road
open Jvm Sem ClassFile Op Lib Jvm.Stand Jvm.Free Jvm.Free.XT
/-- WHAT COMES BACK, in the writer's own shape -/
def QV (Z : State) (x : Addr) (N : Int32) (bs : List Int32) (h : Heap) (n0 : Nat) (v : Option Value) (h' : Heap) (L : List Loc) : Prop := v = none ∧ RoadKit.Fr n0 L ∧ RoadKit.Keep h h' [x] ∧ RoadKit.Exa Z h' x ST ∧ RoadKit.Fld Z h' x ST "coder" "B" (.int 0) ∧
  ∃ (t : Addr) (kb : ClassId), n0 ≤ t ∧ h.size ≤ t ∧ ¬ t = x ∧ RoadKit.Fld Z h' x ST "value" "[B" (.ref t) ∧ RoadKit.Arv Z h' t kb .byte N (bs.map Value.int) (.int 0)
/-- **new String(chars) AT A CALL, FOR THE WRITER**: a char[] of n known ints, each 0 to 255 -/
theorem backV {p : Program} {l : Launch} {e : Env} {R : Room} {s : State} {args : Array Value} {below : List Frame} {len W : Nat} {Z : State} {a0 : Array Value} {h : Heap} (hZ : Z.Warmed39 s.vm) (hw : ∀ d ∈ words, d.before a0 Z = true) {kI : Nat} (wi : (Jvm.Cond.instantiable ST kI).before a0 Z = true)
    {x b : Addr} {kC : ClassId} {cs bs : List Int32} {d v0 c0 : Value} {z N : Int32} {n n0 : Nat} (hx0 : n0 ≤ x) (hh0 : n0 ≤ h.size) (E : RoadKit.Exa Z h x ST) (V : RoadKit.Fld Z h x ST "value" "[B" v0) (C : RoadKit.Fld Z h x ST "coder" "B" c0) (K : RoadKit.Arv Z h b kC .char N (cs.map Value.int) d) (S : RoadKit.Sta Z h ST "COMPACT_STRINGS" "Z" (.int z)) (hz : ¬ z = 0)
    (hn : cs.length = n) (hN : N = Int32.ofNat n) (l0 : 0 < n) (l2 : n ≤ 4000) (hp : ∀ c ∈ cs, ¬ c < 0 ∧ ¬ (255 : Int32) < c) (hb : bs = cs.map (fun c => c.toInt8.toInt32)) (hfr : 4 ≤ R.frames) (hlo : W + 65 ≤ R.locals) :
    Back l R p e below s args (⟨"java/lang/String", "<init>", "([C)V"⟩ : MethodName) len W (fun P a => a = #[.ref x, .ref b] ∧ P.U.heap = h ∧ P.cells + 1 ≤ R.cells ∧ P.slots + n ≤ R.slots)
      (fun P _ v B => ∃ L, QV Z x N bs h n0 v B.U.heap L ∧ B.locs = P.locs ++ L ∧ B.cells = P.cells + 1 ∧ B.slots = P.slots + n) := by
  subst hn hN hb
  refine Back.mono (backArv hZ hw wi E V C K S hz (n32 (by omega)) l0 (by omega) (fun c hc => (hp c hc).2) hfr hlo) (fun P a hp => hp) (fun P a v B hp hq => ?_)
  obtain ⟨L, ⟨q1, q2, q3, q4, q5, q6, q7, ⟨kb, v1, v2⟩, q9⟩, hl, hc, hs⟩ := hq
  exact ⟨L, ⟨q1, fun y hy => by rw [q2 y hy]; exact hx0, q3, q5, q7, h.size, kb, hh0, Nat.le_refl _, Nat.ne_of_gt E.lt, q6, by rw [List.map_map]; exact v2⟩, hl, hc, hs⟩
end StrChars.Road
end Jvm.Pilot.@@N@@

namespace Jvm.Pilot.@@N@@
open Jvm Jvm.ClassFile Sem Op Lib Jvm.Free Jvm.Stand Jvm.LawKit Jvm.RoadKit Bundle Jvm.Pilot.@@N@@.Jvm.D
abbrev HW (a0 : Array Value) (Z : State) : Prop := ∀ d ∈ tables_1, d.before a0 Z = true
theorem WW {Z : State} {a0 : Array Value} (hw : HW a0 Z) (i : Nat) {d : Jvm.Cond} (h : tables_1[i]? = some d := by rfl) : d.before a0 Z = true := hw _ (List.mem_of_getElem? h)
abbrev VI (x : Int32) : Value := .int x
abbrev VJ (x : Int64) : Value := .long x
abbrev VR (a : Addr) : Value := .ref a
abbrev SI (x : Int32) : Slot := .val (.int x)
abbrev SJ (x : Int64) : Slot := .val (.long x)
abbrev SR (a : Addr) : Slot := .val (.ref a)
abbrev SN : Slot := .val .null
abbrev SU : Slot := .unset
abbrev SS : Slot := .second
/-- from the frame g of T the run comes to an end of which G holds -/
def own_Fin (p : Program) (e : Env) (below : List Frame) (G : State → Outcome → Prop) (T : State) (g : JFrame) : Prop := ∃ U o, Steps p.tables e below (T.setTop g) U ∧ U.status = .running ∧ Ended U below o ∧ G U o
theorem own_go {p : Program} {e : Env} {below : List Frame} {G : State → Outcome → Prop} {T T' : State} {g g' : JFrame} (st : ∀ t, Steps p.tables e below (T'.setTop g') t → Steps p.tables e below (T.setTop g) t) (k : own_Fin p e below G T' g') : own_Fin p e below G T g := by
  obtain ⟨U, o, h1, h2⟩ := k
  exact ⟨U, o, st _ h1, h2⟩
theorem own_start {p : Program} {e : Env} {below : List Frame} {G : State → Outcome → Prop} {T : State} {g g' : JFrame} (q : g = g') (k : own_Fin p e below G T g') : ∃ U o, Steps p.tables e below (T.setTop g) U ∧ U.status = .running ∧ Ended U below o ∧ G U o := by
  subst q; exact k
theorem own_enter {l : Launch} {Z : State} {y : MethodName} {bytes : ByteArray} {maxL : Nat} {ret : Option FieldType} {ws : List Jvm.Cond} {R : Room} {A : Array Value} {h0 : Heap} {n0 : Nat} {Ls : Array Slot} {Q : Array Value → State → Outcome → State → Prop} (hp : plainFor y = true) (ef : ∀ m, entryFrame m A maxL = mkF m 0 Ls [])
    (k : ∀ (p : Program) (e : Env) (s : State) (m : MethodId) (below : List Frame) (meth : Method) (c : Code) (s₁ : State), p.tables.exec = Jvm.exec → c.code = bytes → c.maxLocals = maxL → s.vm.findClass y.cls = some m.cls → meth.name = y.name → meth.sig.returnType = ret → meth.locks = false →
      Stand p l e R s m A below meth c s₁ [] 0 0 → s₁.heap = h0 → Z.Warmed39 s.vm → s.heap = h0 → Fr n0 [] → own_Fin p e below (fun U o => Q A s o U) s₁ (mkF m 0 Ls [])) :
    MetFree l y (head1 (Jvm.Cond.code y bytes maxL ret :: ws) R) (fun a U => a = A ∧ Z.Warmed39 U.vm ∧ U.heap = h0) (fun _ _ _ _ _ => True) Q := by
  refine MetFree.of_bodySF hp hisR ?_
  intro p e s m args below meth c s₁ Bd hml hP hK
  obtain ⟨rfl, hZ, hh⟩ := hP
  exact own_start (ef m) (k p e s m below meth c s₁ Bd.exec Bd.bytes hml (findClass_of_methodNamed Bd.named) (name_of_methodNamed Bd.named Bd.method).1 Bd.returns Bd.notSynchronized (Stand.of_body Bd) (by rw [← hh, Bd.state]; rfl) hZ hh (Fr.nil n0))
theorem own_weak {l : Launch} {y : MethodName} {S : Spec} {P : Array Value → State → Prop} {K : Program → Env → List Frame → State → Array Value → Prop} {Q Q' : Array Value → State → Outcome → State → Prop} (h : MetFree l y S P K Q) (w : ∀ a s o t, Q a s o t → Q' a s o t) : MetFree l y S P K Q' := by
  intro p e ha hc hk s m args below hf happ hP hK
  obtain ⟨n, o, h1, h2, h3, h4⟩ := h p e ha hc hk s m args below hf happ hP hK
  exact ⟨n, o, h1, h2, h3, w _ _ _ _ h4⟩
theorem own_end {p : Program} {e : Env} {below : List Frame} {G : State → Outcome → Prop} {T U : State} {g : JFrame} {o : Outcome} (h1 : Steps p.tables e below (T.setTop g) U) (h2 : U.status = .running) (h3 : Ended U below o) (h4 : G U o) : own_Fin p e below G T g := ⟨U, o, h1, h2, h3, h4⟩
section Calls
variable {p : Program} {l : Launch} {e : Env} {R : Room} {s : State} {m : MethodId} {args : Array Value} {below : List Frame} {meth : Method} {c : Code} {T : State} {locs : List Loc} {cells slots : Nat} {Z : State} {a0 : Array Value} {h : Heap}
abbrev own_In (Z : State) (as' : Array Value) (h : Heap) : Array Value → State → Prop := fun a U => a = as' ∧ Z.Warmed39 U.vm ∧ U.heap = h
abbrev own_Out (Q : Option Value → Heap → List Loc → Prop) (rm : Room) : Array Value → State → Outcome → State → Prop := fun _ U o U' => ∃ v L, o = .returned v ∧ Q v U'.heap L ∧ FrameEnd U o U' L rm.cells rm.slots
abbrev own_OutW (Q : Option Value → Heap → List Loc → Prop) (rm : Room) : Array Value → State → Outcome → State → Prop := fun _ U o U' => ∃ v L, o = .returned v ∧ Q v U'.heap L ∧ ReturnedEndW U o U' L rm.cells rm.slots
abbrev own_np (y : MethodName) : Prop := y.cls ≠ "java/lang/invoke/MethodHandle" ∧ y.cls ≠ "java/lang/invoke/VarHandle"
/-- a static method by its contract -/
theorem own_cS {own : String} {index maxL k W : Nat} {y : MethodName} {bytes : ByteArray} {ret : Option FieldType} {rm : Room} {as' : Array Value} {Q : Option Value → Heap → List Loc → Prop} (X : Stand p l e R s m args below meth c T locs cells slots) (hx : p.tables.exec = Jvm.exec) (hZ : Z.Warmed39 s.vm) (hown : s.vm.findClass own = some m.cls)
    (w1 : (Jvm.Cond.methodLink own index y).before a0 Z = true) (w2 : (Jvm.Cond.static y).before a0 Z = true) (w3 : (Jvm.Cond.initialized y.cls).before a0 Z = true) (w4 : (Jvm.Cond.code y bytes maxL ret).before a0 Z = true)
    (hM : MetFree l y (head1 [Jvm.Cond.code y bytes maxL ret] rm) (own_In Z as' h) (fun _ _ _ _ _ => True) (own_Out Q rm)) (eT : T.heap = h) (hml : c.maxLocals = k) {g : JFrame} {ps : List FieldType} {r : Option FieldType} (hd : parseMethodDescriptor y.desc = some ⟨ps, r⟩) (hdg : decode c.code g.pc = .ok (.invokestatic index, 3)) (argsL rest : List Value)
    (hst : g.stack = argsL.reverse ++ rest := by rfl) (has : argsL.toArray = as' := by rfl) (hg : g.method = m := by rfl) (hsz : g.locals.size = k := by rfl) (hln : argsL.length = ps.length := by rfl) (hy : own_np y := by decide) (hW : 2 * g.monitorRoom + (rest.map fun v => v.category).sum ≤ W := by show 2 * 0 + _ ≤ _; exact Nat.le_of_eq rfl) (hf : rm.frames + 1 ≤ R.frames := by decide) (hl : W + (maxL + 11) + rm.locals ≤ R.locals := by decide) (hc : cells + rm.cells ≤ R.cells := by decide) (hs : slots + rm.slots ≤ R.slots := by decide) :
    ∃ (v : Option Value) (T' : State) (L : List Loc), Stand p l e R s m args below meth c T' (locs ++ L) (cells + rm.cells) (slots + rm.slots) ∧ Q v T'.heap L ∧ ∀ t, Steps p.tables e below (T'.setTop { g with pc := g.pc + 3, stack := v.toList ++ rest }) t → Steps p.tables e below (T.setTop g) t := by
  obtain ⟨v, _, ⟨T', L', k', n'⟩, -, X', ⟨L, hQ, h1, h2, h3⟩, st⟩ := Jvm.LawKit.callS X hx (y := y) hown (mvT hZ w1) (mvT hZ w2) (mvT hZ w3) (mvT hZ w4) hy (backOf (W := W) hM hZ w4 w3 hf hl) (g := g) hg (hsz.trans hml.symm) (argsL := argsL) (rest := rest) (lenOf hd hln) hst hW hdg (fun _ _ => ⟨has, eT, hc, hs⟩)
  dsimp only [Pt.U, Pt.locs, Pt.cells, Pt.slots] at X' h1 h2 h3 st hQ
  subst h1 h2 h3
  exact ⟨v, T', L, X', hQ, st⟩
/-- a constructor by its contract -/
theorem own_cI {own : String} {index maxL k W : Nat} {y : MethodName} {bytes : ByteArray} {rm : Room} {as' : Array Value} {Q : Option Value → Heap → List Loc → Prop} (X : Stand p l e R s m args below meth c T locs cells slots) (hx : p.tables.exec = Jvm.exec) (hZ : Z.Warmed39 s.vm) (hown : s.vm.findClass own = some m.cls)
    (w1 : (Jvm.Cond.methodLink own index y).before a0 Z = true) (w2 : (Jvm.Cond.instanceMethod y).before a0 Z = true) (w3 : (Jvm.Cond.initialized y.cls).before a0 Z = true) (w4 : (Jvm.Cond.code y bytes maxL none).before a0 Z = true)
    (hM : MetFree l y (head1 [Jvm.Cond.code y bytes maxL none] rm) (own_In Z as' h) (fun _ _ _ _ _ => True) (own_Out Q rm)) (eT : T.heap = h) (hml : c.maxLocals = k) {g : JFrame} {ps : List FieldType} {r : Option FieldType} (hd : parseMethodDescriptor y.desc = some ⟨ps, r⟩) (hdg : decode c.code g.pc = .ok (.invokespecial index, 3)) (a : Addr) (argsL rest : List Value)
    (hst : g.stack = argsL.reverse ++ .ref a :: rest := by rfl) (has : (.ref a :: argsL).toArray = as' := by rfl) (hg : g.method = m := by rfl) (hsz : g.locals.size = k := by rfl) (hln : argsL.length = ps.length := by rfl) (hn : y.name = "<init>" := by rfl) (hy : own_np y := by decide) (hW : 2 * g.monitorRoom + (rest.map fun v => v.category).sum ≤ W := by show 2 * 0 + _ ≤ _; exact Nat.le_of_eq rfl) (hf : rm.frames + 1 ≤ R.frames := by decide) (hl : W + (maxL + 11) + rm.locals ≤ R.locals := by decide) (hc : cells + rm.cells ≤ R.cells := by decide) (hs : slots + rm.slots ≤ R.slots := by decide) :
    ∃ (v : Option Value) (T' : State) (L : List Loc), Stand p l e R s m args below meth c T' (locs ++ L) (cells + rm.cells) (slots + rm.slots) ∧ Q v T'.heap L ∧ ∀ t, Steps p.tables e below (T'.setTop { g with pc := g.pc + 3, stack := v.toList ++ rest }) t → Steps p.tables e below (T.setTop g) t := by
  obtain ⟨v, _, ⟨T', L', k', n'⟩, -, X', ⟨L, hQ, h1, h2, h3⟩, st⟩ := X.specialBack hx (y := y) hn hown (mvT hZ w1) (mvT hZ w2) (mvT hZ w4) hy (backOf (W := W) hM hZ w4 w3 hf hl) (g := g) hg (hsz.trans hml.symm) (Steps.refl _) (a := a) (argsL := argsL) (rest := rest) (lenOf hd hln) hst hW hdg (fun _ _ => ⟨has, eT, hc, hs⟩)
  dsimp only [Pt.U, Pt.locs, Pt.cells, Pt.slots] at X' h1 h2 h3 st hQ
  subst h1 h2 h3
  exact ⟨v, T', L, X', hQ, fun t q => st.trans q⟩
/-- an instance method by its contract -/
theorem own_cV {own C : String} {index maxL k W : Nat} {y z : MethodName} {bytes : ByteArray} {ret : Option FieldType} {rm : Room} {as' : Array Value} {Q : Option Value → Heap → List Loc → Prop} (X : Stand p l e R s m args below meth c T locs cells slots) (hx : p.tables.exec = Jvm.exec) (hZ : Z.Warmed39 s.vm) (hown : s.vm.findClass own = some m.cls)
    (w1 : (Jvm.Cond.methodLink own index y).before a0 Z = true) (w2 : (Jvm.Cond.declares y).before a0 Z = true) (nf : NotFace s y) (w5 : (Jvm.Cond.selects C y z).before a0 Z = true) (w6 : (Jvm.Cond.instanceMethod z).before a0 Z = true) (w3 : (Jvm.Cond.initialized z.cls).before a0 Z = true) (w4 : (Jvm.Cond.code z bytes maxL ret).before a0 Z = true)
    (hM : MetFree l z (head1 [Jvm.Cond.code z bytes maxL ret] rm) (own_In Z as' h) (fun _ _ _ _ _ => True) (own_Out Q rm)) (eT : T.heap = h) {b : Addr} (E : Exa Z h b C) (hml : c.maxLocals = k) {g : JFrame} {ps : List FieldType} {r : Option FieldType} (hd : parseMethodDescriptor y.desc = some ⟨ps, r⟩) (hdg : decode c.code g.pc = .ok (.invokevirtual index, 3)) (argsL rest : List Value)
    (hst : g.stack = argsL.reverse ++ .ref b :: rest := by rfl) (has : (.ref b :: argsL).toArray = as' := by rfl) (hg : g.method = m := by rfl) (hsz : g.locals.size = k := by rfl) (hln : argsL.length = ps.length := by rfl) (hy : own_np y := by decide) (hW : 2 * g.monitorRoom + (rest.map fun v => v.category).sum ≤ W := by show 2 * 0 + _ ≤ _; exact Nat.le_of_eq rfl) (hf : rm.frames + 1 ≤ R.frames := by decide) (hl : W + (maxL + 11) + rm.locals ≤ R.locals := by decide) (hc : cells + rm.cells ≤ R.cells := by decide) (hs : slots + rm.slots ≤ R.slots := by decide) :
    ∃ (v : Option Value) (T' : State) (L : List Loc), Stand p l e R s m args below meth c T' (locs ++ L) (cells + rm.cells) (slots + rm.slots) ∧ Q v T'.heap L ∧ ∀ t, Steps p.tables e below (T'.setTop { g with pc := g.pc + 3, stack := v.toList ++ rest }) t → Steps p.tables e below (T.setTop g) t := by
  obtain ⟨cq, kq, qa, qb, qc⟩ := isOf hZ eT E
  obtain ⟨v, _, ⟨T', L', k', n'⟩, -, X', ⟨L, hQ, h1, h2, h3⟩, st⟩ := X.virtualBack hx (y := y) (z := z) hown (mvT hZ w1) (mvT hZ w2) nf (mvT hZ w5) (mvT hZ w6) hy (backOf (W := W) hM hZ w4 w3 hf hl) qa qc (g := g) hg (hsz.trans hml.symm) (Steps.refl _) (argsL := argsL) (rest := rest) (lenOf hd hln) hst hW hdg (fun _ _ => ⟨has, eT, hc, hs⟩)
  dsimp only [Pt.U, Pt.locs, Pt.cells, Pt.slots] at X' h1 h2 h3 st hQ
  subst h1 h2 h3
  exact ⟨v, T', L, X', hQ, fun t q => st.trans q⟩
theorem own_cF {own C : String} {index count maxL k W : Nat} {y z : MethodName} {bytes : ByteArray} {ret : Option FieldType} {rm : Room} {as' : Array Value} {Q : Option Value → Heap → List Loc → Prop} (X : Stand p l e R s m args below meth c T locs cells slots) (hx : p.tables.exec = Jvm.exec) (hZ : Z.Warmed39 s.vm) (hown : s.vm.findClass own = some m.cls)
    (w1 : (Jvm.Cond.methodLink own index y).before a0 Z = true) (w2 : (Jvm.Cond.declares y).before a0 Z = true) (w7 : (Jvm.Cond.interfaceMethod y.cls y.cls y.name y.desc).before args s = true) (w5 : (Jvm.Cond.selects C y z).before a0 Z = true) (w6 : (Jvm.Cond.instanceMethod z).before a0 Z = true) (w8 : (Jvm.Cond.publicMethod z).before a0 Z = true) (w9 : (Jvm.Cond.unhidden C y.name y.desc).before a0 Z = true) (w10 : (Jvm.Cond.castable C y.cls).before a0 Z = true) (w3 : (Jvm.Cond.initialized z.cls).before a0 Z = true) (w4 : (Jvm.Cond.code z bytes maxL ret).before a0 Z = true)
    (hM : MetFree l z (head1 [Jvm.Cond.code z bytes maxL ret] rm) (own_In Z as' h) (fun _ _ _ _ _ => True) (own_Out Q rm)) (eT : T.heap = h) {b : Addr} (E : Exa Z h b C) (hml : c.maxLocals = k) {g : JFrame} {ps : List FieldType} {r : Option FieldType} (hd : parseMethodDescriptor y.desc = some ⟨ps, r⟩) (hdg : decode c.code g.pc = .ok (.invokeinterface index count, 5)) (argsL rest : List Value)
    (hst : g.stack = argsL.reverse ++ .ref b :: rest := by rfl) (has : (.ref b :: argsL).toArray = as' := by rfl) (hg : g.method = m := by rfl) (hsz : g.locals.size = k := by rfl) (hln : argsL.length = ps.length := by rfl) (hy : own_np y := by decide) (hW : 2 * g.monitorRoom + (rest.map fun v => v.category).sum ≤ W := by show 2 * 0 + _ ≤ _; exact Nat.le_of_eq rfl) (hf : rm.frames + 1 ≤ R.frames := by decide) (hl : W + (maxL + 11) + rm.locals ≤ R.locals := by decide) (hc : cells + rm.cells ≤ R.cells := by decide) (hs : slots + rm.slots ≤ R.slots := by decide) :
    ∃ (v : Option Value) (T' : State) (L : List Loc), Stand p l e R s m args below meth c T' (locs ++ L) (cells + rm.cells) (slots + rm.slots) ∧ Q v T'.heap L ∧ ∀ t, Steps p.tables e below (T'.setTop { g with pc := g.pc + 5, stack := v.toList ++ rest }) t → Steps p.tables e below (T.setTop g) t := by
  obtain ⟨cq, kq, qa, qb, qc⟩ := isOf hZ eT E
  obtain ⟨v, _, ⟨T', L', k', n'⟩, -, X', ⟨L, hQ, h1, h2, h3⟩, st⟩ := X.interfaceBack hx (xi := y) (y := z) hown (mvT hZ w1) (mvT hZ w2) w7 (mvT hZ w5) (mvT hZ w6) (mvT hZ w8) (mvT hZ w9) (mvT hZ w10) hy (backOf (W := W) hM hZ w4 w3 hf hl) qa qb qc (g := g) hg (hsz.trans hml.symm) (Steps.refl _) (argsL := argsL) (rest := rest) (lenOf hd hln) hst hW hdg (fun _ _ => ⟨has, eT, hc, hs⟩)
  dsimp only [Pt.U, Pt.locs, Pt.cells, Pt.slots] at X' h1 h2 h3 st hQ
  subst h1 h2 h3
  exact ⟨v, T', L, X', hQ, fun t q => st.trans q⟩
end Calls
section CallsW
variable {p : Program} {l : Launch} {e : Env} {R : Room} {s : State} {vm0 : Vm} {m : MethodId} {args : Array Value} {below : List Frame} {meth : Method} {c : Code} {T : State} {locs : List Loc} {cells slots : Nat} {Z : State} {a0 : Array Value} {h : Heap} {k0 : Nat}
theorem own_cSW {own : String} {index maxL k W : Nat} {y : MethodName} {bytes : ByteArray} {ret : Option FieldType} {rm : Room} {as' : Array Value} {Q : Option Value → Heap → List Loc → Prop} (X : Stand p l e R (s.setVm vm0) m args below meth c T locs cells slots) (hx : p.tables.exec = Jvm.exec) (hZ : Z.Warmed39 (s.setVm vm0).vm) (hown : (s.setVm vm0).vm.findClass own = some m.cls) (hS : s.Since vm0 k0) (hk : k0 ≤ h.size)
    (w1 : (Jvm.Cond.methodLink own index y).before a0 Z = true) (w2 : (Jvm.Cond.static y).before a0 Z = true) (w3 : (Jvm.Cond.initialized y.cls).before a0 Z = true) (w4 : (Jvm.Cond.code y bytes maxL ret).before a0 Z = true)
    (hM : MetFree l y (head1 [Jvm.Cond.code y bytes maxL ret] rm) (own_In Z as' h) (fun _ _ _ _ _ => True) (own_OutW Q rm)) (eT : T.heap = h) (hml : c.maxLocals = k) {g : JFrame} {ps : List FieldType} {r : Option FieldType} (hd : parseMethodDescriptor y.desc = some ⟨ps, r⟩) (hdg : decode c.code g.pc = .ok (.invokestatic index, 3)) (argsL rest : List Value)
    (hst : g.stack = argsL.reverse ++ rest := by rfl) (has : argsL.toArray = as' := by rfl) (hg : g.method = m := by rfl) (hsz : g.locals.size = k := by rfl) (hln : argsL.length = ps.length := by rfl) (hy : own_np y := by decide) (hW : 2 * g.monitorRoom + (rest.map fun v => v.category).sum ≤ W := by show 2 * 0 + _ ≤ _; exact Nat.le_of_eq rfl) (hf : rm.frames + 1 ≤ R.frames := by decide) (hl : W + (maxL + 11) + rm.locals ≤ R.locals := by decide) (hc : cells + rm.cells ≤ R.cells := by decide) (hs : slots + rm.slots ≤ R.slots := by decide) :
    ∃ (v : Option Value) (T' : State) (L : List Loc), Stand p l e R (s.setVm T'.vm) m args below meth c T' (locs ++ L) (cells + rm.cells) (slots + rm.slots) ∧ Q v T'.heap L ∧ s.Since T'.vm T'.heap.size ∧ Z.Warmed39 (s.setVm T'.vm).vm ∧ (s.setVm T'.vm).vm.findClass own = some m.cls ∧ ∀ t, Steps p.tables e below (T'.setTop { g with pc := g.pc + 3, stack := v.toList ++ rest }) t → Steps p.tables e below (T.setTop g) t := by
  obtain ⟨v, _, ⟨T', L', k', n'⟩, -, X', hs', hg', ⟨L, hQ, h1, h2, h3⟩, st⟩ := callSS X hx (y := y) hown (mvT hZ w1) (mvT hZ w2) (mvT hZ w3) (mvT hZ w4) hy (backOfS (W := W) hM hZ w4 w3 hf hl) (g := g) hg (hsz.trans hml.symm) (argsL := argsL) (rest := rest) (lenOf hd hln) hst hW hdg (fun _ _ => ⟨has, eT, hc, hs⟩)
  dsimp only [Pt.U, Pt.locs, Pt.cells, Pt.slots] at X' h1 h2 h3 st hQ hs' hg'
  subst h1 h2 h3
  obtain ⟨Y, hS', hZ', ho'⟩ := rebS hS (n1 := T.heap.size) (by rw [eT]; exact hk) X' hs' hg' hZ hown
  exact ⟨v, T', L, Y, hQ, hS', hZ', ho', fun t q => st.trans q⟩
theorem own_cIW {own : String} {index maxL k W : Nat} {y : MethodName} {bytes : ByteArray} {rm : Room} {as' : Array Value} {Q : Option Value → Heap → List Loc → Prop} (X : Stand p l e R (s.setVm vm0) m args below meth c T locs cells slots) (hx : p.tables.exec = Jvm.exec) (hZ : Z.Warmed39 (s.setVm vm0).vm) (hown : (s.setVm vm0).vm.findClass own = some m.cls) (hS : s.Since vm0 k0) (hk : k0 ≤ h.size)
    (w1 : (Jvm.Cond.methodLink own index y).before a0 Z = true) (w2 : (Jvm.Cond.instanceMethod y).before a0 Z = true) (w3 : (Jvm.Cond.initialized y.cls).before a0 Z = true) (w4 : (Jvm.Cond.code y bytes maxL none).before a0 Z = true)
    (hM : MetFree l y (head1 [Jvm.Cond.code y bytes maxL none] rm) (own_In Z as' h) (fun _ _ _ _ _ => True) (own_OutW Q rm)) (eT : T.heap = h) (hml : c.maxLocals = k) {g : JFrame} {ps : List FieldType} {r : Option FieldType} (hd : parseMethodDescriptor y.desc = some ⟨ps, r⟩) (hdg : decode c.code g.pc = .ok (.invokespecial index, 3)) (a : Addr) (argsL rest : List Value)
    (hst : g.stack = argsL.reverse ++ .ref a :: rest := by rfl) (has : (.ref a :: argsL).toArray = as' := by rfl) (hg : g.method = m := by rfl) (hsz : g.locals.size = k := by rfl) (hln : argsL.length = ps.length := by rfl) (hn : y.name = "<init>" := by rfl) (hy : own_np y := by decide) (hW : 2 * g.monitorRoom + (rest.map fun v => v.category).sum ≤ W := by show 2 * 0 + _ ≤ _; exact Nat.le_of_eq rfl) (hf : rm.frames + 1 ≤ R.frames := by decide) (hl : W + (maxL + 11) + rm.locals ≤ R.locals := by decide) (hc : cells + rm.cells ≤ R.cells := by decide) (hs : slots + rm.slots ≤ R.slots := by decide) :
    ∃ (v : Option Value) (T' : State) (L : List Loc), Stand p l e R (s.setVm T'.vm) m args below meth c T' (locs ++ L) (cells + rm.cells) (slots + rm.slots) ∧ Q v T'.heap L ∧ s.Since T'.vm T'.heap.size ∧ Z.Warmed39 (s.setVm T'.vm).vm ∧ (s.setVm T'.vm).vm.findClass own = some m.cls ∧ ∀ t, Steps p.tables e below (T'.setTop { g with pc := g.pc + 3, stack := v.toList ++ rest }) t → Steps p.tables e below (T.setTop g) t := by
  obtain ⟨v, _, ⟨T', L', k', n'⟩, -, X', hs', hg', ⟨L, hQ, h1, h2, h3⟩, st⟩ := X.specialBackS hx (y := y) hn hown (mvT hZ w1) (mvT hZ w2) (mvT hZ w4) hy (backOfS (W := W) hM hZ w4 w3 hf hl) (g := g) hg (hsz.trans hml.symm) (Steps.refl _) (a := a) (argsL := argsL) (rest := rest) (lenOf hd hln) hst hW hdg (fun _ _ => ⟨has, eT, hc, hs⟩)
  dsimp only [Pt.U, Pt.locs, Pt.cells, Pt.slots] at X' h1 h2 h3 st hQ hs' hg'
  subst h1 h2 h3
  obtain ⟨Y, hS', hZ', ho'⟩ := rebS hS (n1 := T.heap.size) (by rw [eT]; exact hk) X' hs' hg' hZ hown
  exact ⟨v, T', L, Y, hQ, hS', hZ', ho', fun t q => st.trans q⟩
end CallsW
theorem own_and3 (x : Int32) (h0 : ¬ (x &&& (3 : Int32)) = (0 : Int32)) (h1 : ¬ (x &&& (3 : Int32)) = (1 : Int32)) (h2 : ¬ (x &&& (3 : Int32)) = (2 : Int32)) : (x &&& (3 : Int32)) = (3 : Int32) := by
  have h : (x &&& 3).toBitVec.toNat < 4 := by
    simp only [Int32.toBitVec_and, BitVec.toNat_and]
    exact Nat.lt_succ_of_le Nat.and_le_right
  have e : (x &&& 3) = Int32.ofNat (x &&& 3).toBitVec.toNat := by
    apply Int32.toBitVec_inj.mp
    show _ = BitVec.ofNat 32 _
    rw [BitVec.ofNat_toNat]; simp
  have t : ∀ k : Fin 4, ¬ Int32.ofNat k.val = 0 → ¬ Int32.ofNat k.val = 1 → ¬ Int32.ofNat k.val = 2 → Int32.ofNat k.val = 3 := by decide +kernel
  rw [e] at h0 h1 h2 ⊢
  exact t ⟨_, h⟩ h0 h1 h2
theorem own_c255 (x : Int32) : ¬ ((x &&& (255 : Int32)).toUInt32.toUInt16.toUInt32.toInt32) < 0 ∧ ¬ (255 : Int32) < ((x &&& (255 : Int32)).toUInt32.toUInt16.toUInt32.toInt32) := by
  have t : ∀ k : Fin 256, ¬ ((Int32.ofNat k.val).toUInt32.toUInt16.toUInt32.toInt32) < 0 ∧ ¬ (255 : Int32) < ((Int32.ofNat k.val).toUInt32.toUInt16.toUInt32.toInt32) := by decide +kernel
  have h : (x &&& 255).toBitVec.toNat < 256 := by
    simp only [Int32.toBitVec_and, BitVec.toNat_and]
    exact Nat.lt_succ_of_le Nat.and_le_right
  have e : (x &&& 255) = Int32.ofNat (x &&& 255).toBitVec.toNat := by
    apply Int32.toBitVec_inj.mp
    show _ = BitVec.ofNat 32 _
    rw [BitVec.ofNat_toNat]; simp
  rw [e]
  exact t ⟨_, h⟩
theorem own_and255 (x : Int32) : ¬ nar .char ((x &&& (255 : Int32)).toUInt32.toUInt16.toUInt32.toInt32) < 0 ∧ ¬ (255 : Int32) < nar .char ((x &&& (255 : Int32)).toUInt32.toUInt16.toUInt32.toInt32) := by
  have e : nar .char ((x &&& (255 : Int32)).toUInt32.toUInt16.toUInt32.toInt32) = ((x &&& (255 : Int32)).toUInt32.toUInt16.toUInt32.toInt32) := by simp only [nar, UInt32.toUInt32_toInt32, UInt16.toUInt16_toUInt32]
  rw [e]; exact own_c255 x
theorem own_nar2 (x : Int32) : ¬ nar .char (nar .char ((x &&& (255 : Int32)).toUInt32.toUInt16.toUInt32.toInt32)) < 0 ∧ ¬ (255 : Int32) < nar .char (nar .char ((x &&& (255 : Int32)).toUInt32.toUInt16.toUInt32.toInt32)) := by
  have e : nar .char (nar .char ((x &&& (255 : Int32)).toUInt32.toUInt16.toUInt32.toInt32)) = ((x &&& (255 : Int32)).toUInt32.toUInt16.toUInt32.toInt32) := by simp only [nar, UInt32.toUInt32_toInt32, UInt16.toUInt16_toUInt32]
  rw [e]; exact own_c255 x
theorem own_b63c (x : Int32) : (nar .char (nar .char ((x &&& (255 : Int32)).toUInt32.toUInt16.toUInt32.toInt32))).toInt8.toInt32 = (63 : Int32) ↔ nar .char ((x &&& (255 : Int32)).toUInt32.toUInt16.toUInt32.toInt32) = (63 : Int32) := by
  have t : ∀ k : Fin 256, (nar .char (nar .char ((Int32.ofNat k.val).toUInt32.toUInt16.toUInt32.toInt32))).toInt8.toInt32 = (63 : Int32) ↔ nar .char ((Int32.ofNat k.val).toUInt32.toUInt16.toUInt32.toInt32) = (63 : Int32) := by decide +kernel
  have h : (x &&& 255).toBitVec.toNat < 256 := by
    simp only [Int32.toBitVec_and, BitVec.toNat_and]
    exact Nat.lt_succ_of_le Nat.and_le_right
  have e : (x &&& 255) = Int32.ofNat (x &&& 255).toBitVec.toNat := by
    apply Int32.toBitVec_inj.mp
    show _ = BitVec.ofNat 32 _
    rw [BitVec.ofNat_toNat]; simp
  rw [e]
  exact t ⟨_, h⟩
theorem own_all0 {P : Int32 → Prop} : ∀ c ∈ ([] : List Int32), P c := fun _ q => nomatch q
theorem own_allS {P : Int32 → Prop} {y : Int32} {L : List Int32} (q : P y) (r : ∀ x ∈ L, P x) : ∀ x ∈ y :: L, P x := fun x z => (List.mem_cons.mp z).elim (fun u => u ▸ q) (r x)
def own_EL : List (String × Nat) := [("java/lang/String", 7)]
theorem own_enterH {l : Launch} {Z : State} {y : MethodName} {bytes : ByteArray} {maxL : Nat} {ret : Option FieldType} {ws : List Jvm.Cond} {R : Room} {A : Array Value} {h0 : Heap} {n0 : Nat} {Ls : Array Slot} {Q : Array Value → State → Outcome → State → Prop} (hp : plainFor y = true) (ef : ∀ m, entryFrame m A maxL = mkF m 0 Ls [])
    (k : ∀ (p : Program) (e : Env) (s : State) (m : MethodId) (below : List Frame) (meth : Method) (c : Code) (s₁ : State), p.tables.exec = Jvm.exec → c.code = bytes → c.maxLocals = maxL → s.vm.findClass y.cls = some m.cls → meth.name = y.name → meth.sig.returnType = ret → meth.locks = false →
      Stand p l e R s m A below meth c s₁ [] 0 0 → s₁.heap = h0 → Z.Warmed39 s.vm → s.heap = h0 → Fr n0 [] → CHv Z own_EL s.vm h0 → own_Fin p e below (fun U o => Q A s o U) s₁ (mkF m 0 Ls [])) :
    MetFree l y (head1 (Jvm.Cond.code y bytes maxL ret :: ws) R) (fun a U => a = A ∧ Z.Warmed39 U.vm ∧ U.heap = h0 ∧ CHv Z own_EL U.vm h0) (fun _ _ _ _ _ => True) Q := by
  refine MetFree.of_bodySF hp hisR ?_
  intro p e s m args below meth c s₁ Bd hml hP hK
  obtain ⟨rfl, hZ, hh, hC⟩ := hP
  exact own_start (ef m) (k p e s m below meth c s₁ Bd.exec Bd.bytes hml (findClass_of_methodNamed Bd.named) (name_of_methodNamed Bd.named Bd.method).1 Bd.returns Bd.notSynchronized (Stand.of_body Bd) (by rw [← hh, Bd.state]; rfl) hZ hh (Fr.nil n0) hC)
theorem own_safe {Z : State} {vm : Vm} {h : Heap} {EL : List (String × Nat)} {x : Addr} (hal : Z.vm.Alike vm) (E : Exa Z h x "java/lang/String") (F : Fld Z h x "java/lang/String" "value" "[B" .null) : Safe Z EL vm h x := fun B => by
  obtain ⟨pp, -, u, a, -, q, -, S, hx⟩ := B
  obtain ⟨cS, ⟨⟨s1, s2, s3, ⟨cv, kv, iv, s4, s4'⟩, -, s6, s7, s8, s9, s10, -⟩, hfS, hcS⟩, -, hB, -⟩ := S
  rcases hx with rfl | rfl
  · obtain ⟨cell, cf, k, i, f, h1, h2, -, -, -, -, h7⟩ := F
    have s1' : h[q.sa]? = some q.sC := s1
    cases s1'.symm.trans h1
    obtain ⟨k', z4⟩ := ff_back (U := Wst Z vm h) hal s4
    cases h2.symm.trans z4
    cases h7.symm.trans s8
  · obtain ⟨cell, k, e1, e2, -⟩ := E
    have s10' : h[q.sd]? = some q.SA := s10
    cases s10'.symm.trans e1
    have hB' : vm.findClass "[B" = some q.SA.cls := hB
    rw [hal.findClass] at hB'
    obtain ⟨k1, q1, q2⟩ := Vm.findClass_spec hB'
    obtain ⟨k2, q3, q4⟩ := Vm.findClass_spec e2
    cases q1.symm.trans q3
    exact absurd (q2.symm.trans q4) (by decide)
section CallsH
variable {p : Program} {l : Launch} {e : Env} {R : Room} {s : State} {vm0 : Vm} {m : MethodId} {args : Array Value} {below : List Frame} {meth : Method} {c : Code} {T : State} {locs : List Loc} {cells slots : Nat} {Z : State} {a0 : Array Value} {h : Heap} {k0 : Nat}
abbrev own_InH (Z : State) (as' : Array Value) (h : Heap) : Array Value → State → Prop := fun a U => a = as' ∧ Z.Warmed39 U.vm ∧ U.heap = h ∧ CHv Z own_EL U.vm h
abbrev own_OutH (Z : State) (Q : Option Value → Heap → List Loc → Prop) (rm : Room) : Array Value → State → Outcome → State → Prop := fun _ U o U' => ∃ v L, o = .returned v ∧ Q v U'.heap L ∧ CHr Z own_EL U.vm U.heap U'.vm U'.heap ∧ ReturnedEndW U o U' L rm.cells rm.slots
theorem own_cSH {own : String} {index maxL k W : Nat} {y : MethodName} {bytes : ByteArray} {ret : Option FieldType} {rm : Room} {as' : Array Value} {Q : Option Value → Heap → List Loc → Prop} (X : Stand p l e R (s.setVm vm0) m args below meth c T locs cells slots) (hx : p.tables.exec = Jvm.exec) (hZ : Z.Warmed39 (s.setVm vm0).vm) (hown : (s.setVm vm0).vm.findClass own = some m.cls) (hS : s.Since vm0 k0) (hk : k0 ≤ h.size) (hEL : EW Z a0 own_EL) (hR : CHv Z own_EL vm0 h)
    (w1 : (Jvm.Cond.methodLink own index y).before a0 Z = true) (w2 : (Jvm.Cond.static y).before a0 Z = true) (w3 : (Jvm.Cond.initialized y.cls).before a0 Z = true) (w4 : (Jvm.Cond.code y bytes maxL ret).before a0 Z = true)
    (hM : MetFree l y (head1 [Jvm.Cond.code y bytes maxL ret] rm) (own_InH Z as' h) (fun _ _ _ _ _ => True) (own_OutH Z Q rm)) (eT : T.heap = h) (hml : c.maxLocals = k) {g : JFrame} {ps : List FieldType} {r : Option FieldType} (hd : parseMethodDescriptor y.desc = some ⟨ps, r⟩) (hdg : decode c.code g.pc = .ok (.invokestatic index, 3)) (argsL rest : List Value)
    (hst : g.stack = argsL.reverse ++ rest := by rfl) (has : argsL.toArray = as' := by rfl) (hg : g.method = m := by rfl) (hsz : g.locals.size = k := by rfl) (hln : argsL.length = ps.length := by rfl) (hy : own_np y := by decide) (hW : 2 * g.monitorRoom + (rest.map fun v => v.category).sum ≤ W := by show 2 * 0 + _ ≤ _; exact Nat.le_of_eq rfl) (hf : rm.frames + 1 ≤ R.frames := by decide) (hl : W + (maxL + 11) + rm.locals ≤ R.locals := by decide) (hc : cells + rm.cells ≤ R.cells := by decide) (hs : slots + rm.slots ≤ R.slots := by decide) :
    ∃ (v : Option Value) (T' : State) (L : List Loc), Stand p l e R (s.setVm T'.vm) m args below meth c T' (locs ++ L) (cells + rm.cells) (slots + rm.slots) ∧ Q v T'.heap L ∧ s.Since T'.vm T'.heap.size ∧ Z.Warmed39 (s.setVm T'.vm).vm ∧ (s.setVm T'.vm).vm.findClass own = some m.cls ∧ CHr Z own_EL vm0 h T'.vm T'.heap ∧ ∀ t, Steps p.tables e below (T'.setTop { g with pc := g.pc + 3, stack := v.toList ++ rest }) t → Steps p.tables e below (T.setTop g) t := by
  obtain ⟨v, _, ⟨T', L', k', n'⟩, -, X', hs', hg', ⟨L, hQ, h1, h2, h3, hC⟩, st⟩ := callSS X hx (y := y) hown (mvT hZ w1) (mvT hZ w2) (mvT hZ w3) (mvT hZ w4) hy (backOfSH (W := W) hM hZ w4 w3 hf hl hEL hR) (g := g) hg (hsz.trans hml.symm) (argsL := argsL) (rest := rest) (lenOf hd hln) hst hW hdg (fun _ _ => ⟨has, eT, hc, hs⟩)
  dsimp only [Pt.U, Pt.locs, Pt.cells, Pt.slots] at X' h1 h2 h3 st hQ hs' hg' hC
  subst h1 h2 h3
  obtain ⟨Y, hS', hZ', ho'⟩ := rebS hS (n1 := T.heap.size) (by rw [eT]; exact hk) X' hs' hg' hZ hown
  exact ⟨v, T', L, Y, hQ, hS', hZ', ho', hC, fun t q => st.trans q⟩
theorem own_cIH {own : String} {index maxL k W : Nat} {y : MethodName} {bytes : ByteArray} {rm : Room} {as' : Array Value} {Q : Option Value → Heap → List Loc → Prop} (X : Stand p l e R (s.setVm vm0) m args below meth c T locs cells slots) (hx : p.tables.exec = Jvm.exec) (hZ : Z.Warmed39 (s.setVm vm0).vm) (hown : (s.setVm vm0).vm.findClass own = some m.cls) (hS : s.Since vm0 k0) (hk : k0 ≤ h.size) (hEL : EW Z a0 own_EL) (hR : CHv Z own_EL vm0 h)
    (w1 : (Jvm.Cond.methodLink own index y).before a0 Z = true) (w2 : (Jvm.Cond.instanceMethod y).before a0 Z = true) (w3 : (Jvm.Cond.initialized y.cls).before a0 Z = true) (w4 : (Jvm.Cond.code y bytes maxL none).before a0 Z = true)
    (hM : MetFree l y (head1 [Jvm.Cond.code y bytes maxL none] rm) (own_InH Z as' h) (fun _ _ _ _ _ => True) (own_OutH Z Q rm)) (eT : T.heap = h) (hml : c.maxLocals = k) {g : JFrame} {ps : List FieldType} {r : Option FieldType} (hd : parseMethodDescriptor y.desc = some ⟨ps, r⟩) (hdg : decode c.code g.pc = .ok (.invokespecial index, 3)) (a : Addr) (argsL rest : List Value)
    (hst : g.stack = argsL.reverse ++ .ref a :: rest := by rfl) (has : (.ref a :: argsL).toArray = as' := by rfl) (hg : g.method = m := by rfl) (hsz : g.locals.size = k := by rfl) (hln : argsL.length = ps.length := by rfl) (hn : y.name = "<init>" := by rfl) (hy : own_np y := by decide) (hW : 2 * g.monitorRoom + (rest.map fun v => v.category).sum ≤ W := by show 2 * 0 + _ ≤ _; exact Nat.le_of_eq rfl) (hf : rm.frames + 1 ≤ R.frames := by decide) (hl : W + (maxL + 11) + rm.locals ≤ R.locals := by decide) (hc : cells + rm.cells ≤ R.cells := by decide) (hs : slots + rm.slots ≤ R.slots := by decide) :
    ∃ (v : Option Value) (T' : State) (L : List Loc), Stand p l e R (s.setVm T'.vm) m args below meth c T' (locs ++ L) (cells + rm.cells) (slots + rm.slots) ∧ Q v T'.heap L ∧ s.Since T'.vm T'.heap.size ∧ Z.Warmed39 (s.setVm T'.vm).vm ∧ (s.setVm T'.vm).vm.findClass own = some m.cls ∧ CHr Z own_EL vm0 h T'.vm T'.heap ∧ ∀ t, Steps p.tables e below (T'.setTop { g with pc := g.pc + 3, stack := v.toList ++ rest }) t → Steps p.tables e below (T.setTop g) t := by
  obtain ⟨v, _, ⟨T', L', k', n'⟩, -, X', hs', hg', ⟨L, hQ, h1, h2, h3, hC⟩, st⟩ := X.specialBackS hx (y := y) hn hown (mvT hZ w1) (mvT hZ w2) (mvT hZ w4) hy (backOfSH (W := W) hM hZ w4 w3 hf hl hEL hR) (g := g) hg (hsz.trans hml.symm) (Steps.refl _) (a := a) (argsL := argsL) (rest := rest) (lenOf hd hln) hst hW hdg (fun _ _ => ⟨has, eT, hc, hs⟩)
  dsimp only [Pt.U, Pt.locs, Pt.cells, Pt.slots] at X' h1 h2 h3 st hQ hs' hg' hC
  subst h1 h2 h3
  obtain ⟨Y, hS', hZ', ho'⟩ := rebS hS (n1 := T.heap.size) (by rw [eT]; exact hk) X' hs' hg' hZ hown
  exact ⟨v, T', L, Y, hQ, hS', hZ', ho', hC, fun t q => st.trans q⟩
end CallsH
abbrev cC0 : String := site_20.cls
abbrev cC1 : String := "Ljava/lang/String;"
theorem d1_0 : decode method_5_code 0 = .ok (.iload_n 0, 1) := by decide +kernel
theorem d1_1 : decode method_5_code 1 = .ok (.invokestatic 26, 3) := by decide +kernel
theorem d2_0 : decode method_4_code 0 = .ok (.iload_n 0, 1) := by decide +kernel
theorem d2_1 : decode method_4_code 1 = .ok (.bipush 24, 2) := by decide +kernel
theorem d2_3 : decode method_4_code 3 = .ok (.iushr, 1) := by decide +kernel
theorem d2_4 : decode method_4_code 4 = .ok (.iconst 3, 1) := by decide +kernel
theorem d2_5 : decode method_4_code 5 = .ok (.iand, 1) := by decide +kernel
theorem d2_6 : decode method_4_code 6 = .ok (.ireturn, 1) := by decide +kernel
abbrev cC2 : String := x.cls
abbrev yM0 : MethodName := ⟨cC2, "length", "(I)I"⟩
theorem pn0 : plainName x.cls = true := by first | (simp [plainName, overriddenIn]; done) | decide +kernel
theorem pd0 : parseMethodDescriptor "(I)I" = some ⟨[.int], some .int⟩ := by decide +kernel
theorem d1_4 : decode method_5_code 4 = .ok (.istore_n 1, 1) := by decide +kernel
theorem d1_5 : decode method_5_code 5 = .ok (.iload_n 1, 1) := by decide +kernel
theorem d1_6 : decode method_5_code 6 = .ok (.ifCond .ne 14, 3) := by decide +kernel
theorem d1_9 : decode method_5_code 9 = .ok (.new 30, 3) := by decide +kernel
abbrev cC3 : String := "java/lang/String"
theorem d1_12 : decode method_5_code 12 = .ok (.dup, 1) := by decide +kernel
theorem d1_13 : decode method_5_code 13 = .ok (.iconst 0, 1) := by decide +kernel
theorem d1_14 : decode method_5_code 14 = .ok (.newarray .char, 2) := by decide +kernel
theorem d1_16 : decode method_5_code 16 = .ok (.invokespecial 32, 3) := by decide +kernel
theorem d3_0 : decode jdk_42_method_3_code 0 = .ok (.aload_n 0, 1) := by decide +kernel
theorem d3_1 : decode jdk_42_method_3_code 1 = .ok (.aload_n 1, 1) := by decide +kernel
theorem d3_2 : decode jdk_42_method_3_code 2 = .ok (.iconst 0, 1) := by decide +kernel
theorem d3_3 : decode jdk_42_method_3_code 3 = .ok (.aload_n 1, 1) := by decide +kernel
theorem d3_4 : decode jdk_42_method_3_code 4 = .ok (.arraylength, 1) := by decide +kernel
theorem d3_5 : decode jdk_42_method_3_code 5 = .ok (.aconst_null, 1) := by decide +kernel
theorem d3_6 : decode jdk_42_method_3_code 6 = .ok (.invokespecial 27, 3) := by decide +kernel
theorem d4_0 : decode jdk_42_method_149_code 0 = .ok (.aload_n 0, 1) := by decide +kernel
theorem d4_1 : decode jdk_42_method_149_code 1 = .ok (.invokespecial 1, 3) := by decide +kernel
theorem d4_4 : decode jdk_42_method_149_code 4 = .ok (.iload_n 3, 1) := by decide +kernel
theorem d4_5 : decode jdk_42_method_149_code 5 = .ok (.ifCond .ne 22, 3) := by decide +kernel
theorem d4_8 : decode jdk_42_method_149_code 8 = .ok (.aload_n 0, 1) := by decide +kernel
theorem d4_9 : decode jdk_42_method_149_code 9 = .ok (.ldc 7, 2) := by decide +kernel
theorem d4_11 : decode jdk_42_method_149_code 11 = .ok (.getfield 9, 3) := by decide +kernel
theorem d4_14 : decode jdk_42_method_149_code 14 = .ok (.putfield 9, 3) := by decide +kernel
theorem d4_17 : decode jdk_42_method_149_code 17 = .ok (.aload_n 0, 1) := by decide +kernel
theorem d4_18 : decode jdk_42_method_149_code 18 = .ok (.ldc 7, 2) := by decide +kernel
theorem d4_20 : decode jdk_42_method_149_code 20 = .ok (.getfield 15, 3) := by decide +kernel
theorem d4_23 : decode jdk_42_method_149_code 23 = .ok (.putfield 15, 3) := by decide +kernel
theorem d4_26 : decode jdk_42_method_149_code 26 = .ok (.return_, 1) := by decide +kernel
abbrev yM1 : MethodName := ⟨cC3, "<init>", "([CIILjava/lang/Void;)V"⟩
theorem pn3 : plainName "java/lang/String" = true := by first | (simp [plainName, overriddenIn]; done) | decide +kernel
theorem pd1 : parseMethodDescriptor "([CIILjava/lang/Void;)V" = some ⟨[(.array .char), .int, .int, (.object "java/lang/Void")], none⟩ := by decide +kernel
theorem d3_9 : decode jdk_42_method_3_code 9 = .ok (.return_, 1) := by decide +kernel
abbrev yM2 : MethodName := ⟨cC3, "<init>", "([C)V"⟩
theorem pd2 : parseMethodDescriptor "([C)V" = some ⟨[(.array .char)], none⟩ := by decide +kernel
theorem d1_19 : decode method_5_code 19 = .ok (.areturn, 1) := by decide +kernel
theorem d1_20 : decode method_5_code 20 = .ok (.iload_n 1, 1) := by decide +kernel
theorem d1_21 : decode method_5_code 21 = .ok (.iconst 1, 1) := by decide +kernel
theorem d1_22 : decode method_5_code 22 = .ok (.if_icmp .ne 22, 3) := by decide +kernel
theorem d1_25 : decode method_5_code 25 = .ok (.new 30, 3) := by decide +kernel
theorem d1_28 : decode method_5_code 28 = .ok (.dup, 1) := by decide +kernel
theorem d1_29 : decode method_5_code 29 = .ok (.iconst 1, 1) := by decide +kernel
theorem d1_30 : decode method_5_code 30 = .ok (.newarray .char, 2) := by decide +kernel
theorem d1_32 : decode method_5_code 32 = .ok (.dup, 1) := by decide +kernel
theorem d1_33 : decode method_5_code 33 = .ok (.iconst 0, 1) := by decide +kernel
theorem d1_34 : decode method_5_code 34 = .ok (.iload_n 0, 1) := by decide +kernel
theorem d1_35 : decode method_5_code 35 = .ok (.iconst 0, 1) := by decide +kernel
theorem d1_36 : decode method_5_code 36 = .ok (.invokestatic 35, 3) := by decide +kernel
theorem d19_0 : decode method_3_code 0 = .ok (.iload_n 0, 1) := by decide +kernel
theorem d19_1 : decode method_3_code 1 = .ok (.bipush 26, 2) := by decide +kernel
theorem d19_3 : decode method_3_code 3 = .ok (.iload_n 1, 1) := by decide +kernel
theorem d19_4 : decode method_3_code 4 = .ok (.iadd, 1) := by decide +kernel
theorem d19_5 : decode method_3_code 5 = .ok (.iushr, 1) := by decide +kernel
theorem d19_6 : decode method_3_code 6 = .ok (.iconst 1, 1) := by decide +kernel
theorem d19_7 : decode method_3_code 7 = .ok (.iand, 1) := by decide +kernel
theorem d19_8 : decode method_3_code 8 = .ok (.ifCond .eq 6, 3) := by decide +kernel
theorem d19_14 : decode method_3_code 14 = .ok (.iload_n 0, 1) := by decide +kernel
theorem d19_15 : decode method_3_code 15 = .ok (.bipush 8, 2) := by decide +kernel
theorem d19_17 : decode method_3_code 17 = .ok (.iload_n 1, 1) := by decide +kernel
theorem d19_18 : decode method_3_code 18 = .ok (.imul, 1) := by decide +kernel
theorem d19_19 : decode method_3_code 19 = .ok (.iushr, 1) := by decide +kernel
theorem d19_20 : decode method_3_code 20 = .ok (.sipush 255, 3) := by decide +kernel
theorem d19_23 : decode method_3_code 23 = .ok (.iand, 1) := by decide +kernel
theorem d19_24 : decode method_3_code 24 = .ok (.i2c, 1) := by decide +kernel
theorem d19_25 : decode method_3_code 25 = .ok (.ireturn, 1) := by decide +kernel
theorem d19_11 : decode method_3_code 11 = .ok (.bipush 63, 2) := by decide +kernel
theorem d19_13 : decode method_3_code 13 = .ok (.ireturn, 1) := by decide +kernel
abbrev yM3 : MethodName := ⟨cC2, "at", "(II)C"⟩
theorem pd3 : parseMethodDescriptor "(II)C" = some ⟨[.int, .int], some .char⟩ := by decide +kernel
theorem d1_39 : decode method_5_code 39 = .ok (.castore, 1) := by decide +kernel
theorem d1_40 : decode method_5_code 40 = .ok (.invokespecial 32, 3) := by decide +kernel
theorem d1_43 : decode method_5_code 43 = .ok (.areturn, 1) := by decide +kernel
theorem d1_44 : decode method_5_code 44 = .ok (.iload_n 1, 1) := by decide +kernel
theorem d1_45 : decode method_5_code 45 = .ok (.iconst 2, 1) := by decide +kernel
theorem d1_46 : decode method_5_code 46 = .ok (.if_icmp .ne 30, 3) := by decide +kernel
theorem d1_49 : decode method_5_code 49 = .ok (.new 30, 3) := by decide +kernel
theorem d1_52 : decode method_5_code 52 = .ok (.dup, 1) := by decide +kernel
theorem d1_53 : decode method_5_code 53 = .ok (.iconst 2, 1) := by decide +kernel
theorem d1_54 : decode method_5_code 54 = .ok (.newarray .char, 2) := by decide +kernel
theorem d1_56 : decode method_5_code 56 = .ok (.dup, 1) := by decide +kernel
theorem d1_57 : decode method_5_code 57 = .ok (.iconst 0, 1) := by decide +kernel
theorem d1_58 : decode method_5_code 58 = .ok (.iload_n 0, 1) := by decide +kernel
theorem d1_59 : decode method_5_code 59 = .ok (.iconst 0, 1) := by decide +kernel
theorem d1_60 : decode method_5_code 60 = .ok (.invokestatic 35, 3) := by decide +kernel
theorem d1_63 : decode method_5_code 63 = .ok (.castore, 1) := by decide +kernel
theorem d1_64 : decode method_5_code 64 = .ok (.dup, 1) := by decide +kernel
theorem d1_65 : decode method_5_code 65 = .ok (.iconst 1, 1) := by decide +kernel
theorem d1_66 : decode method_5_code 66 = .ok (.iload_n 0, 1) := by decide +kernel
theorem d1_67 : decode method_5_code 67 = .ok (.iconst 1, 1) := by decide +kernel
theorem d1_68 : decode method_5_code 68 = .ok (.invokestatic 35, 3) := by decide +kernel
theorem d1_71 : decode method_5_code 71 = .ok (.castore, 1) := by decide +kernel
theorem d1_72 : decode method_5_code 72 = .ok (.invokespecial 32, 3) := by decide +kernel
theorem d1_75 : decode method_5_code 75 = .ok (.areturn, 1) := by decide +kernel
theorem d1_76 : decode method_5_code 76 = .ok (.new 30, 3) := by decide +kernel
theorem d1_79 : decode method_5_code 79 = .ok (.dup, 1) := by decide +kernel
theorem d1_80 : decode method_5_code 80 = .ok (.iconst 3, 1) := by decide +kernel
theorem d1_81 : decode method_5_code 81 = .ok (.newarray .char, 2) := by decide +kernel
theorem d1_83 : decode method_5_code 83 = .ok (.dup, 1) := by decide +kernel
theorem d1_84 : decode method_5_code 84 = .ok (.iconst 0, 1) := by decide +kernel
theorem d1_85 : decode method_5_code 85 = .ok (.iload_n 0, 1) := by decide +kernel
theorem d1_86 : decode method_5_code 86 = .ok (.iconst 0, 1) := by decide +kernel
theorem d1_87 : decode method_5_code 87 = .ok (.invokestatic 35, 3) := by decide +kernel
theorem d1_90 : decode method_5_code 90 = .ok (.castore, 1) := by decide +kernel
theorem d1_91 : decode method_5_code 91 = .ok (.dup, 1) := by decide +kernel
theorem d1_92 : decode method_5_code 92 = .ok (.iconst 1, 1) := by decide +kernel
theorem d1_93 : decode method_5_code 93 = .ok (.iload_n 0, 1) := by decide +kernel
theorem d1_94 : decode method_5_code 94 = .ok (.iconst 1, 1) := by decide +kernel
theorem d1_95 : decode method_5_code 95 = .ok (.invokestatic 35, 3) := by decide +kernel
theorem d1_98 : decode method_5_code 98 = .ok (.castore, 1) := by decide +kernel
theorem d1_99 : decode method_5_code 99 = .ok (.dup, 1) := by decide +kernel
theorem d1_100 : decode method_5_code 100 = .ok (.iconst 2, 1) := by decide +kernel
theorem d1_101 : decode method_5_code 101 = .ok (.iload_n 0, 1) := by decide +kernel
theorem d1_102 : decode method_5_code 102 = .ok (.iconst 2, 1) := by decide +kernel
theorem d1_103 : decode method_5_code 103 = .ok (.invokestatic 35, 3) := by decide +kernel
theorem d1_106 : decode method_5_code 106 = .ok (.castore, 1) := by decide +kernel
theorem d1_107 : decode method_5_code 107 = .ok (.invokespecial 32, 3) := by decide +kernel
theorem d1_110 : decode method_5_code 110 = .ok (.areturn, 1) := by decide +kernel
abbrev yM4 : MethodName := ⟨cC2, "drawn", "(I)Ljava/lang/String;"⟩
theorem pd4 : parseMethodDescriptor "(I)Ljava/lang/String;" = some ⟨[.int], some (.object "java/lang/String")⟩ := by decide +kernel
theorem d6_0 : decode prog_105_method_1_code 0 = .ok (.aload_n 0, 1) := by decide +kernel
theorem d6_1 : decode prog_105_method_1_code 1 = .ok (.invokespecial 3, 3) := by decide +kernel
theorem d7_0 : decode jdk_30_method_1_code 0 = .ok (.aload_n 0, 1) := by decide +kernel
theorem d7_1 : decode jdk_30_method_1_code 1 = .ok (.invokespecial 1, 3) := by decide +kernel
theorem d7_4 : decode jdk_30_method_1_code 4 = .ok (.return_, 1) := by decide +kernel
abbrev cC4 : String := "java/lang/Record"
abbrev yM5 : MethodName := ⟨cC4, "<init>", "()V"⟩
theorem pn7 : plainName "java/lang/Record" = true := by first | (simp [plainName, overriddenIn]; done) | decide +kernel
theorem pd5 : parseMethodDescriptor "()V" = some ⟨[], none⟩ := by decide +kernel
theorem d6_4 : decode prog_105_method_1_code 4 = .ok (.aload_n 0, 1) := by decide +kernel
theorem d6_5 : decode prog_105_method_1_code 5 = .ok (.aload_n 1, 1) := by decide +kernel
theorem d6_6 : decode prog_105_method_1_code 6 = .ok (.putfield 9, 3) := by decide +kernel
theorem d6_9 : decode prog_105_method_1_code 9 = .ok (.aload_n 0, 1) := by decide +kernel
theorem d6_10 : decode prog_105_method_1_code 10 = .ok (.aload_n 2, 1) := by decide +kernel
theorem d6_11 : decode prog_105_method_1_code 11 = .ok (.putfield 15, 3) := by decide +kernel
theorem d6_14 : decode prog_105_method_1_code 14 = .ok (.aload_n 0, 1) := by decide +kernel
theorem d6_15 : decode prog_105_method_1_code 15 = .ok (.aload_n 3, 1) := by decide +kernel
theorem d6_16 : decode prog_105_method_1_code 16 = .ok (.putfield 18, 3) := by decide +kernel
theorem d6_19 : decode prog_105_method_1_code 19 = .ok (.aload_n 0, 1) := by decide +kernel
theorem d6_20 : decode prog_105_method_1_code 20 = .ok (.aload 4, 2) := by decide +kernel
theorem d6_22 : decode prog_105_method_1_code 22 = .ok (.putfield 21, 3) := by decide +kernel
theorem d6_25 : decode prog_105_method_1_code 25 = .ok (.return_, 1) := by decide +kernel
abbrev yM6 : MethodName := ⟨cC0, "<init>", "(Ljava/lang/String;Ljava/lang/String;Ljava/lang/String;Ljava/lang/String;)V"⟩
theorem pn6 : plainName site_20.cls = true := by first | (simp [plainName, overriddenIn]; done) | decide +kernel
theorem pd6 : parseMethodDescriptor "(Ljava/lang/String;Ljava/lang/String;Ljava/lang/String;Ljava/lang/String;)V" = some ⟨[(.object "java/lang/String"), (.object "java/lang/String"), (.object "java/lang/String"), (.object "java/lang/String")], none⟩ := by decide +kernel
theorem d8_0 : decode method_6_code 0 = .ok (.iload_n 0, 1) := by decide +kernel
theorem d8_1 : decode method_6_code 1 = .ok (.invokestatic 26, 3) := by decide +kernel
theorem d8_4 : decode method_6_code 4 = .ok (.istore_n 1, 1) := by decide +kernel
theorem d8_5 : decode method_6_code 5 = .ok (.iload_n 1, 1) := by decide +kernel
theorem d8_6 : decode method_6_code 6 = .ok (.iconst 1, 1) := by decide +kernel
theorem d8_7 : decode method_6_code 7 = .ok (.if_icmp .lt 13, 3) := by decide +kernel
theorem d8_20 : decode method_6_code 20 = .ok (.iconst 1, 1) := by decide +kernel
theorem d8_21 : decode method_6_code 21 = .ok (.goto 4, 3) := by decide +kernel
theorem d8_25 : decode method_6_code 25 = .ok (.istore_n 2, 1) := by decide +kernel
theorem d8_26 : decode method_6_code 26 = .ok (.iload_n 1, 1) := by decide +kernel
theorem d8_27 : decode method_6_code 27 = .ok (.iconst 2, 1) := by decide +kernel
theorem d8_28 : decode method_6_code 28 = .ok (.if_icmp .lt 13, 3) := by decide +kernel
theorem d8_41 : decode method_6_code 41 = .ok (.iconst 1, 1) := by decide +kernel
theorem d8_42 : decode method_6_code 42 = .ok (.goto 4, 3) := by decide +kernel
theorem d8_46 : decode method_6_code 46 = .ok (.istore_n 3, 1) := by decide +kernel
theorem d8_47 : decode method_6_code 47 = .ok (.iload_n 1, 1) := by decide +kernel
theorem d8_48 : decode method_6_code 48 = .ok (.iconst 3, 1) := by decide +kernel
theorem d8_49 : decode method_6_code 49 = .ok (.if_icmp .lt 13, 3) := by decide +kernel
theorem d8_62 : decode method_6_code 62 = .ok (.iconst 1, 1) := by decide +kernel
theorem d8_63 : decode method_6_code 63 = .ok (.goto 4, 3) := by decide +kernel
theorem d8_67 : decode method_6_code 67 = .ok (.istore 4, 2) := by decide +kernel
theorem d8_69 : decode method_6_code 69 = .ok (.iload_n 2, 1) := by decide +kernel
theorem d8_70 : decode method_6_code 70 = .ok (.ifCond .eq 16, 3) := by decide +kernel
theorem d8_73 : decode method_6_code 73 = .ok (.iload_n 3, 1) := by decide +kernel
theorem d8_74 : decode method_6_code 74 = .ok (.ifCond .eq 12, 3) := by decide +kernel
theorem d8_77 : decode method_6_code 77 = .ok (.iload 4, 2) := by decide +kernel
theorem d8_79 : decode method_6_code 79 = .ok (.ifCond .eq 7, 3) := by decide +kernel
theorem d8_82 : decode method_6_code 82 = .ok (.iconst 1, 1) := by decide +kernel
theorem d8_83 : decode method_6_code 83 = .ok (.goto 4, 3) := by decide +kernel
theorem d8_87 : decode method_6_code 87 = .ok (.ireturn, 1) := by decide +kernel
abbrev yM7 : MethodName := ⟨cC2, "noMark", "(I)Z"⟩
theorem pd7 : parseMethodDescriptor "(I)Z" = some ⟨[.int], some .boolean⟩ := by decide +kernel
theorem d9_0 : decode prog_105_method_2_code 0 = .ok (.aload_n 0, 1) := by decide +kernel
theorem d9_1 : decode prog_105_method_2_code 1 = .ok (.getfield 15, 3) := by decide +kernel
theorem d9_4 : decode prog_105_method_2_code 4 = .ok (.bipush 63, 2) := by decide +kernel
theorem d9_6 : decode prog_105_method_2_code 6 = .ok (.invokevirtual 24, 3) := by decide +kernel
theorem d10_0 : decode jdk_42_method_79_code 0 = .ok (.aload_n 0, 1) := by decide +kernel
theorem d10_1 : decode jdk_42_method_79_code 1 = .ok (.iload_n 1, 1) := by decide +kernel
theorem d10_2 : decode jdk_42_method_79_code 2 = .ok (.iconst 0, 1) := by decide +kernel
theorem d10_3 : decode jdk_42_method_79_code 3 = .ok (.invokevirtual 633, 3) := by decide +kernel
theorem d11_0 : decode jdk_42_method_80_code 0 = .ok (.aload_n 0, 1) := by decide +kernel
theorem d11_1 : decode jdk_42_method_80_code 1 = .ok (.invokevirtual 492, 3) := by decide +kernel
theorem d12_0 : decode jdk_42_method_154_code 0 = .ok (.getstatic 38, 3) := by decide +kernel
theorem d12_3 : decode jdk_42_method_154_code 3 = .ok (.ifCond .eq 14, 3) := by decide +kernel
theorem d12_6 : decode jdk_42_method_154_code 6 = .ok (.aload_n 0, 1) := by decide +kernel
theorem d12_7 : decode jdk_42_method_154_code 7 = .ok (.getfield 15, 3) := by decide +kernel
theorem d12_10 : decode jdk_42_method_154_code 10 = .ok (.ifCond .ne 7, 3) := by decide +kernel
theorem d12_13 : decode jdk_42_method_154_code 13 = .ok (.iconst 1, 1) := by decide +kernel
theorem d12_14 : decode jdk_42_method_154_code 14 = .ok (.goto 4, 3) := by decide +kernel
theorem d12_18 : decode jdk_42_method_154_code 18 = .ok (.ireturn, 1) := by decide +kernel
abbrev yM8 : MethodName := ⟨cC3, "isLatin1", "()Z"⟩
theorem pd8 : parseMethodDescriptor "()Z" = some ⟨[], some .boolean⟩ := by decide +kernel
theorem d11_4 : decode jdk_42_method_80_code 4 = .ok (.ifCond .eq 19, 3) := by decide +kernel
theorem d11_7 : decode jdk_42_method_80_code 7 = .ok (.aload_n 0, 1) := by decide +kernel
theorem d11_8 : decode jdk_42_method_80_code 8 = .ok (.getfield 9, 3) := by decide +kernel
theorem d11_11 : decode jdk_42_method_80_code 11 = .ok (.iload_n 1, 1) := by decide +kernel
theorem d11_12 : decode jdk_42_method_80_code 12 = .ok (.iload_n 2, 1) := by decide +kernel
theorem d11_13 : decode jdk_42_method_80_code 13 = .ok (.aload_n 0, 1) := by decide +kernel
theorem d11_14 : decode jdk_42_method_80_code 14 = .ok (.invokevirtual 505, 3) := by decide +kernel
theorem d13_0 : decode jdk_42_method_54_code 0 = .ok (.aload_n 0, 1) := by decide +kernel
theorem d13_1 : decode jdk_42_method_54_code 1 = .ok (.getfield 9, 3) := by decide +kernel
theorem d13_4 : decode jdk_42_method_54_code 4 = .ok (.arraylength, 1) := by decide +kernel
theorem d13_5 : decode jdk_42_method_54_code 5 = .ok (.aload_n 0, 1) := by decide +kernel
theorem d13_6 : decode jdk_42_method_54_code 6 = .ok (.invokevirtual 335, 3) := by decide +kernel
theorem d14_0 : decode jdk_42_method_152_code 0 = .ok (.getstatic 38, 3) := by decide +kernel
theorem d14_3 : decode jdk_42_method_152_code 3 = .ok (.ifCond .eq 10, 3) := by decide +kernel
theorem d14_6 : decode jdk_42_method_152_code 6 = .ok (.aload_n 0, 1) := by decide +kernel
theorem d14_7 : decode jdk_42_method_152_code 7 = .ok (.getfield 15, 3) := by decide +kernel
theorem d14_10 : decode jdk_42_method_152_code 10 = .ok (.goto 4, 3) := by decide +kernel
theorem d14_14 : decode jdk_42_method_152_code 14 = .ok (.ireturn, 1) := by decide +kernel
abbrev yM9 : MethodName := ⟨cC3, "coder", "()B"⟩
theorem pd9 : parseMethodDescriptor "()B" = some ⟨[], some .byte⟩ := by decide +kernel
theorem d13_9 : decode jdk_42_method_54_code 9 = .ok (.ishr, 1) := by decide +kernel
theorem d13_10 : decode jdk_42_method_54_code 10 = .ok (.ireturn, 1) := by decide +kernel
abbrev yM10 : MethodName := ⟨cC3, "length", "()I"⟩
theorem pd10 : parseMethodDescriptor "()I" = some ⟨[], some .int⟩ := by decide +kernel
theorem d11_17 : decode jdk_42_method_80_code 17 = .ok (.invokestatic 637, 3) := by decide +kernel
theorem d15_0 : decode jdk_43_method_22_code 0 = .ok (.iload_n 1, 1) := by decide +kernel
theorem d15_1 : decode jdk_43_method_22_code 1 = .ok (.invokestatic 88, 3) := by decide +kernel
theorem d16_0 : decode jdk_43_method_4_code 0 = .ok (.iload_n 0, 1) := by decide +kernel
theorem d16_1 : decode jdk_43_method_4_code 1 = .ok (.ifCond .lt 14, 3) := by decide +kernel
theorem d16_4 : decode jdk_43_method_4_code 4 = .ok (.iload_n 0, 1) := by decide +kernel
theorem d16_5 : decode jdk_43_method_4_code 5 = .ok (.sipush 255, 3) := by decide +kernel
theorem d16_8 : decode jdk_43_method_4_code 8 = .ok (.if_icmp .gt 7, 3) := by decide +kernel
theorem d16_11 : decode jdk_43_method_4_code 11 = .ok (.iconst 1, 1) := by decide +kernel
theorem d16_12 : decode jdk_43_method_4_code 12 = .ok (.goto 4, 3) := by decide +kernel
theorem d16_16 : decode jdk_43_method_4_code 16 = .ok (.ireturn, 1) := by decide +kernel
abbrev cC5 : String := "java/lang/StringLatin1"
abbrev yM11 : MethodName := ⟨cC5, "canEncode", "(I)Z"⟩
theorem pn15 : plainName "java/lang/StringLatin1" = true := by first | (simp [plainName, overriddenIn]; done) | decide +kernel
theorem d15_4 : decode jdk_43_method_22_code 4 = .ok (.ifCond .ne 5, 3) := by decide +kernel
theorem d15_9 : decode jdk_43_method_22_code 9 = .ok (.iload_n 2, 1) := by decide +kernel
theorem d15_10 : decode jdk_43_method_22_code 10 = .ok (.iconst 0, 1) := by decide +kernel
theorem d15_11 : decode jdk_43_method_22_code 11 = .ok (.invokestatic 92, 3) := by decide +kernel
theorem d17_0 : decode jdk_29_method_65_code 0 = .ok (.iload_n 0, 1) := by decide +kernel
theorem d17_1 : decode jdk_29_method_65_code 1 = .ok (.iload_n 1, 1) := by decide +kernel
theorem d17_2 : decode jdk_29_method_65_code 2 = .ok (.if_icmp .lt 7, 3) := by decide +kernel
theorem d17_5 : decode jdk_29_method_65_code 5 = .ok (.iload_n 0, 1) := by decide +kernel
theorem d17_6 : decode jdk_29_method_65_code 6 = .ok (.goto 4, 3) := by decide +kernel
theorem d17_10 : decode jdk_29_method_65_code 10 = .ok (.ireturn, 1) := by decide +kernel
abbrev cC6 : String := "java/lang/Math"
abbrev yM12 : MethodName := ⟨cC6, "max", "(II)I"⟩
theorem pd11 : parseMethodDescriptor "(II)I" = some ⟨[.int, .int], some .int⟩ := by decide +kernel
theorem d15_14 : decode jdk_43_method_22_code 14 = .ok (.istore_n 2, 1) := by decide +kernel
theorem d15_15 : decode jdk_43_method_22_code 15 = .ok (.iload_n 3, 1) := by decide +kernel
theorem d15_16 : decode jdk_43_method_22_code 16 = .ok (.aload_n 0, 1) := by decide +kernel
theorem d15_17 : decode jdk_43_method_22_code 17 = .ok (.arraylength, 1) := by decide +kernel
theorem d15_18 : decode jdk_43_method_22_code 18 = .ok (.invokestatic 38, 3) := by decide +kernel
theorem d18_0 : decode jdk_29_method_69_code 0 = .ok (.iload_n 0, 1) := by decide +kernel
theorem d18_1 : decode jdk_29_method_69_code 1 = .ok (.iload_n 1, 1) := by decide +kernel
theorem d18_2 : decode jdk_29_method_69_code 2 = .ok (.if_icmp .gt 7, 3) := by decide +kernel
theorem d18_5 : decode jdk_29_method_69_code 5 = .ok (.iload_n 0, 1) := by decide +kernel
theorem d18_6 : decode jdk_29_method_69_code 6 = .ok (.goto 4, 3) := by decide +kernel
theorem d18_10 : decode jdk_29_method_69_code 10 = .ok (.ireturn, 1) := by decide +kernel
abbrev yM13 : MethodName := ⟨cC6, "min", "(II)I"⟩
theorem d15_21 : decode jdk_43_method_22_code 21 = .ok (.istore_n 3, 1) := by decide +kernel
theorem d15_22 : decode jdk_43_method_22_code 22 = .ok (.iload_n 2, 1) := by decide +kernel
theorem d15_23 : decode jdk_43_method_22_code 23 = .ok (.iload_n 3, 1) := by decide +kernel
theorem d15_24 : decode jdk_43_method_22_code 24 = .ok (.if_icmp .lt 5, 3) := by decide +kernel
theorem d15_27 : decode jdk_43_method_22_code 27 = .ok (.iconst (-1), 1) := by decide +kernel
theorem d15_28 : decode jdk_43_method_22_code 28 = .ok (.ireturn, 1) := by decide +kernel
abbrev yM14 : MethodName := ⟨cC5, "indexOf", "([BIII)I"⟩
theorem pd12 : parseMethodDescriptor "([BIII)I" = some ⟨[(.array .byte), .int, .int, .int], some .int⟩ := by decide +kernel
theorem d11_20 : decode jdk_42_method_80_code 20 = .ok (.goto 16, 3) := by decide +kernel
theorem d11_36 : decode jdk_42_method_80_code 36 = .ok (.ireturn, 1) := by decide +kernel
abbrev yM15 : MethodName := ⟨cC3, "indexOf", "(II)I"⟩
theorem d10_6 : decode jdk_42_method_79_code 6 = .ok (.ireturn, 1) := by decide +kernel
abbrev yM16 : MethodName := ⟨cC3, "indexOf", "(I)I"⟩
theorem d9_9 : decode prog_105_method_2_code 9 = .ok (.ifCond .ge 19, 3) := by decide +kernel
theorem d9_12 : decode prog_105_method_2_code 12 = .ok (.aload_n 0, 1) := by decide +kernel
theorem d9_13 : decode prog_105_method_2_code 13 = .ok (.getfield 18, 3) := by decide +kernel
theorem d9_16 : decode prog_105_method_2_code 16 = .ok (.bipush 63, 2) := by decide +kernel
theorem d9_18 : decode prog_105_method_2_code 18 = .ok (.invokevirtual 24, 3) := by decide +kernel
theorem d9_21 : decode prog_105_method_2_code 21 = .ok (.ifCond .ge 7, 3) := by decide +kernel
theorem d9_24 : decode prog_105_method_2_code 24 = .ok (.iconst 1, 1) := by decide +kernel
theorem d9_25 : decode prog_105_method_2_code 25 = .ok (.goto 4, 3) := by decide +kernel
theorem d9_29 : decode prog_105_method_2_code 29 = .ok (.ireturn, 1) := by decide +kernel
abbrev yM17 : MethodName := ⟨cC0, "isClean", "()Z"⟩
theorem d8_10 : decode method_6_code 10 = .ok (.iload_n 0, 1) := by decide +kernel
theorem d8_11 : decode method_6_code 11 = .ok (.iconst 0, 1) := by decide +kernel
theorem d8_12 : decode method_6_code 12 = .ok (.invokestatic 35, 3) := by decide +kernel
theorem d8_15 : decode method_6_code 15 = .ok (.bipush 63, 2) := by decide +kernel
theorem d8_17 : decode method_6_code 17 = .ok (.if_icmp .eq 7, 3) := by decide +kernel
theorem d8_24 : decode method_6_code 24 = .ok (.iconst 0, 1) := by decide +kernel
theorem d8_86 : decode method_6_code 86 = .ok (.iconst 0, 1) := by decide +kernel
theorem d15_29 : decode jdk_43_method_22_code 29 = .ok (.aload_n 0, 1) := by decide +kernel
theorem d15_30 : decode jdk_43_method_22_code 30 = .ok (.iload_n 1, 1) := by decide +kernel
theorem d15_31 : decode jdk_43_method_22_code 31 = .ok (.iload_n 2, 1) := by decide +kernel
theorem d15_32 : decode jdk_43_method_22_code 32 = .ok (.iload_n 3, 1) := by decide +kernel
theorem d15_33 : decode jdk_43_method_22_code 33 = .ok (.invokestatic 95, 3) := by decide +kernel
theorem d23_0 : decode jdk_43_method_23_code 0 = .ok (.iload_n 1, 1) := by decide +kernel
theorem d23_1 : decode jdk_43_method_23_code 1 = .ok (.i2b, 1) := by decide +kernel
theorem d23_2 : decode jdk_43_method_23_code 2 = .ok (.istore 4, 2) := by decide +kernel
theorem d23_4 : decode jdk_43_method_23_code 4 = .ok (.iload_n 2, 1) := by decide +kernel
theorem d23_5 : decode jdk_43_method_23_code 5 = .ok (.istore 5, 2) := by decide +kernel
theorem d23_7 : decode jdk_43_method_23_code 7 = .ok (.iload 5, 2) := by decide +kernel
theorem d23_9 : decode jdk_43_method_23_code 9 = .ok (.iload_n 3, 1) := by decide +kernel
theorem d23_10 : decode jdk_43_method_23_code 10 = .ok (.if_icmp .ge 21, 3) := by decide +kernel
theorem d23_13 : decode jdk_43_method_23_code 13 = .ok (.aload_n 0, 1) := by decide +kernel
theorem d23_14 : decode jdk_43_method_23_code 14 = .ok (.iload 5, 2) := by decide +kernel
theorem d23_16 : decode jdk_43_method_23_code 16 = .ok (.baload, 1) := by decide +kernel
theorem d23_17 : decode jdk_43_method_23_code 17 = .ok (.iload 4, 2) := by decide +kernel
theorem d23_19 : decode jdk_43_method_23_code 19 = .ok (.if_icmp .ne 6, 3) := by decide +kernel
theorem d23_22 : decode jdk_43_method_23_code 22 = .ok (.iload 5, 2) := by decide +kernel
theorem d23_24 : decode jdk_43_method_23_code 24 = .ok (.ireturn, 1) := by decide +kernel
theorem d23_25 : decode jdk_43_method_23_code 25 = .ok (.iinc 5 1, 3) := by decide +kernel
theorem d23_28 : decode jdk_43_method_23_code 28 = .ok (.goto (-21), 3) := by decide +kernel
theorem d23_31 : decode jdk_43_method_23_code 31 = .ok (.iconst (-1), 1) := by decide +kernel
theorem d23_32 : decode jdk_43_method_23_code 32 = .ok (.ireturn, 1) := by decide +kernel
abbrev yM18 : MethodName := ⟨cC5, "indexOfChar", "([BIII)I"⟩
theorem d15_36 : decode jdk_43_method_22_code 36 = .ok (.ireturn, 1) := by decide +kernel
theorem d9_28 : decode prog_105_method_2_code 28 = .ok (.iconst 0, 1) := by decide +kernel
theorem d8_31 : decode method_6_code 31 = .ok (.iload_n 0, 1) := by decide +kernel
theorem d8_32 : decode method_6_code 32 = .ok (.iconst 1, 1) := by decide +kernel
theorem d8_33 : decode method_6_code 33 = .ok (.invokestatic 35, 3) := by decide +kernel
theorem d8_36 : decode method_6_code 36 = .ok (.bipush 63, 2) := by decide +kernel
theorem d8_38 : decode method_6_code 38 = .ok (.if_icmp .eq 7, 3) := by decide +kernel
theorem d8_45 : decode method_6_code 45 = .ok (.iconst 0, 1) := by decide +kernel
theorem d8_52 : decode method_6_code 52 = .ok (.iload_n 0, 1) := by decide +kernel
theorem d8_53 : decode method_6_code 53 = .ok (.iconst 2, 1) := by decide +kernel
theorem d8_54 : decode method_6_code 54 = .ok (.invokestatic 35, 3) := by decide +kernel
theorem d8_57 : decode method_6_code 57 = .ok (.bipush 63, 2) := by decide +kernel
theorem d8_59 : decode method_6_code 59 = .ok (.if_icmp .eq 7, 3) := by decide +kernel
theorem d8_66 : decode method_6_code 66 = .ok (.iconst 0, 1) := by decide +kernel
def Q0 (n0 : Nat) (v : Option Value) (h : Heap) (L : List Loc) : Prop := v = some (.int (1 : Int32)) ∧ Fr n0 L
theorem ef2_1 (m : MethodId) (p1 : Int32) : entryFrame m #[(.int p1)] 1 = mkF m 0 #[SI p1] [] := by first | (simp [entryFrame, mkF, argsToLocals, Value.category]; done) | rfl
def Q2_1 (Z : State) (p1 : Int32) (h0 : Heap) (n0 : Nat) (v : Option Value) (h : Heap) (L : List Loc) : Prop := v = some (.int (((p1.toUInt32 >>> ((24 : Int32) &&& 31).toUInt32).toInt32) &&& (3 : Int32))) ∧ Fr n0 L ∧ h = h0
set_option maxRecDepth 65536 in
set_option maxHeartbeats 40000000 in
theorem rm2_1 (l : Launch) (Z : State) (a0 : Array Value) (hw : HW a0 Z) (ws : List Jvm.Cond) (p1 : Int32) (h0 : Heap) (n0 : Nat) (Z0 : n0 ≤ h0.size) :
    MetFree l yM0 (head1 (Jvm.Cond.code yM0 method_4_code 1 (some .int) :: ws) ({ frames := 0, cells := 0, slots := 0, locals := 0 } : Room)) (fun a U => a = #[(.int p1)] ∧ Z.Warmed39 U.vm ∧ U.heap = h0) (fun _ _ _ _ _ => True) (fun _ U o U' => ∃ v L, o = .returned v ∧ Q2_1 Z p1 h0 n0 v U'.heap L ∧ FrameEnd U o U' L ({ frames := 0, cells := 0, slots := 0, locals := 0 } : Room).cells ({ frames := 0, cells := 0, slots := 0, locals := 0 } : Room).slots) := by
  refine own_enter (n0 := n0) (plainFor_of_name pn0) (fun m => ef2_1 m p1) ?_
  intro p e s m below meth c s₁ hx hby hml hown hnm hret hlk X0 e0 hZ hh N0
  show own_Fin p e below _ s₁ (mkF m 0 #[SI p1] [])
  refine own_go (fun _ k => XS.iloadN X0.here hx rfl (hb hby d2_0) rfl (XS.bipush X0.here hx rfl (hb hby d2_1) (XS.iushr X0.here hx rfl (hb hby d2_3) rfl (XS.iconst X0.here hx rfl (hb hby d2_4) (XS.iand X0.here hx rfl (hb hby d2_5) rfl k))))) ?_
  show own_Fin p e below _ s₁ (mkF m 6 #[SI p1] [VI (((p1.toUInt32 >>> ((24 : Int32) &&& 31).toUInt32).toInt32) &&& (3 : Int32))])
  obtain ⟨fs, hr, hrun, hended, hW, hsame⟩ := X0.leave (v := some (.int (((p1.toUInt32 >>> ((24 : Int32) &&& 31).toUInt32).toInt32) &&& (3 : Int32)))) (fun h => by rw [hret] at h; cases h)
  refine own_end (retOut X0 hx hret rfl (Or.inl ⟨rfl, Or.inl rfl, _, rfl⟩) (hb hby d2_6) hr) hrun hended ⟨_, _, rfl, ?_, ⟨_, rfl⟩, hW, hsame.mono (by decide) (by decide)⟩
  show Q2_1 Z p1 h0 n0 _ s₁.heap _
  rw [e0]
  exact ⟨rfl, N0, rfl⟩
theorem ef4_1 (m : MethodId) (a1 : Addr) (a2 : Addr) (p3 : Int32) (p4 : Int32) : entryFrame m #[(.ref a1), (.ref a2), (.int p3), (.int p4), .null] 6 = mkF m 0 #[SR a1, SR a2, SI p3, SI p4, SN, SU] [] := by first | (simp [entryFrame, mkF, argsToLocals, Value.category]; done) | rfl
def Q4_1 (Z : State) (a1 : Addr) (a2 : Addr) (p3 : Int32) (p4 : Int32) (h0 : Heap) (n0 : Nat) (v : Option Value) (h : Heap) (L : List Loc) : Prop := ∃ (b10 : Addr) (kb10 : ClassId), v = none ∧ Fr n0 L ∧ Keep h0 h [a1] ∧ Exa Z h a1 cC3 ∧ Fld Z h a1 cC3 "value" "[B" (VR b10) ∧ Fld Z h a1 cC3 "coder" "B" (VI 0) ∧ Arv Z h b10 kb10 .byte 0 [] (VI 0)
set_option maxRecDepth 65536 in
set_option maxHeartbeats 40000000 in
theorem rm4_1 (l : Launch) (Z : State) (a0 : Array Value) (hw : HW a0 Z) (ws : List Jvm.Cond) (a1 : Addr) (a2 : Addr) (p3 : Int32) (p4 : Int32) (h0 : Heap) (n0 : Nat) (Z0 : n0 ≤ h0.size) (f6 : p4 = (0 : Int32)) (f7 : Exa Z h0 a1 cC3) (f8 : Fld Z h0 a1 cC3 "value" "[B" (.null)) (f16 : n0 ≤ a1) (f27 : Fld Z h0 a1 cC3 "coder" "B" (VI 0)) :
    MetFree l yM1 (head1 (Jvm.Cond.code yM1 jdk_42_method_149_code 6 none :: ws) ({ frames := 1, cells := 4, slots := 8, locals := 12 } : Room)) (fun a U => a = #[(.ref a1), (.ref a2), (.int p3), (.int p4), .null] ∧ Z.Warmed39 U.vm ∧ U.heap = h0 ∧ CHv Z own_EL U.vm h0) (fun _ _ _ _ _ => True) (fun _ U o U' => ∃ v L, o = .returned v ∧ Q4_1 Z a1 a2 p3 p4 h0 n0 v U'.heap L ∧ CHr Z own_EL U.vm U.heap U'.vm U'.heap ∧ ReturnedEndW U o U' L ({ frames := 1, cells := 4, slots := 8, locals := 12 } : Room).cells ({ frames := 1, cells := 4, slots := 8, locals := 12 } : Room).slots) := by
  refine own_enterH (n0 := n0) (plainFor_of_name pn3) (fun m => ef4_1 m a1 a2 p3 p4) ?_
  intro p e s m below meth c s₁ hx hby hml hown hnm hret hlk XY0 e0 hZ hh N0 hC0
  have X0 : Stand p l e ({ frames := 1, cells := 4, slots := 8, locals := 12 } : Room) (s.setVm s.vm) m _ below meth c s₁ [] 0 0 := XY0
  have hS0 : s.Since s.vm h0.size := (State.WarmedH.refl s).since _
  have hk0 : h0.size ≤ h0.size := Nat.le_refl _
  have hEL : EW Z a0 own_EL := (EW.cons (WW hw 24) (by decide) EW.nil)
  have hR0 : CHr Z own_EL s.vm h0 s.vm h0 := CHr.refl hC0
  show own_Fin p e below _ s₁ (mkF m 0 #[SR a1, SR a2, SI p3, SI p4, SN, SU] [])
  refine own_go (fun _ k => XS.aloadN X0.here hx rfl (hb hby d4_0) rfl rfl k) ?_
  show own_Fin p e below _ s₁ (mkF m 1 #[SR a1, SR a2, SI p3, SI p4, SN, SU] [VR a1])
  obtain ⟨T5, X5, e5, st5⟩ := initO X0 hx hZ hown (WW hw 21) (WW hw 22) (WW hw 23) e0 (g := (mkF m 1 #[SR a1, SR a2, SI p3, SI p4, SN, SU] [VR a1])) rfl (by rw [hml]; rfl) rfl (hb hby d4_1) (by decide) (W := 0) (by show 2 * 0 + _ ≤ _; exact Nat.le_of_eq rfl) (by decide)
  refine own_go st5 ?_
  show own_Fin p e below _ T5 (mkF m 4 #[SR a1, SR a2, SI p3, SI p4, SN, SU] [])
  refine own_go (fun _ k => XS.iloadN X5.here hx rfl (hb hby d4_4) rfl (XS.ifNo X5.here hx rfl (hb hby d4_5) rfl ((if0 _ _).trans (teq f6).2) (XS.aloadN X5.here hx rfl (hb hby d4_8) rfl rfl k))) ?_
  show own_Fin p e below _ T5 (mkF m 9 #[SR a1, SR a2, SI p3, SI p4, SN, SU] [VR a1])
  have wS : ∀ d ∈ Bundle.stringAtoms, d.before a0 Z = true := fun d hd => hw d ((by decide +kernel : ∀ d ∈ Bundle.stringAtoms, d ∈ tables_1) d hd)
  have sf9 : Safe Z own_EL (s.setVm s.vm).vm h0 a1 := own_safe (State.Warmed39.alike hZ) f7 f8
  obtain ⟨a10, T10, h10, k10, b10, kb10, X10, e10, E10, hS10, hk10, hZ10, ho10, xA10, xC10, xV10, xB10, la10, lb10, hC10, -, hs10, st10⟩ := ldcCH (vm0 := (s.setVm s.vm).vm) X5 hx hZ hown (WW hw 24) wS e5 hS0 hk0 hEL (List.mem_of_getElem? (i := 0) rfl) hR0.1 (vs := []) (z := 0) ⟨by decide, rfl⟩ (by decide) rfl (g := (mkF m 9 #[SR a1, SR a2, SI p3, SI p4, SN, SU] [VR a1])) rfl (hb hby d4_9) (n := 0) (by decide) (by decide) (by decide) (by decide)
  have hR10 := hR0.trans hC10
  have sf11 : Safe Z own_EL (s.setVm T10.vm).vm h10 a1 := CHr.safe hC10 f7.lt sf9
  refine own_go st10 ?_
  show own_Fin p e below _ T10 (mkF m 11 #[SR a1, SR a2, SI p3, SI p4, SN, SU] [VR a10, VR a1])
  obtain ⟨T12, X12, e12, st12⟩ := getF X10 hx hZ10 ho10 (host := "") (Or.inl (WW hw 30)) Via.refl e10 xV10 (g := (mkF m 11 #[SR a1, SR a2, SI p3, SI p4, SN, SU] [VR a10, VR a1])) rfl rfl (hb hby d4_11)
  refine own_go st12 ?_
  show own_Fin p e below _ T12 (mkF m 14 #[SR a1, SR a2, SI p3, SI p4, SN, SU] [VR b10, VR a1])
  have F13 : Exa Z h10 a1 cC3 := (f7.ext E10)
  have F14 : Fld Z h10 a1 cC3 "value" "[B" (.null) := (f8.ext E10)
  obtain ⟨T15, h15, X15, e15, W15, st15⟩ := putF X12 hx hZ10 ho10 (host := "") (Or.inl (WW hw 30)) Via.refl e12 F14 F13 (Or.inr ⟨(WW hw 26), rfl, hnm⟩) (WW hw 11) (ty := (.array .byte)) (by decide) rfl rfl (g := (mkF m 14 #[SR a1, SR a2, SI p3, SI p4, SN, SU] [VR b10, VR a1])) rfl rfl (hb hby d4_14)
  have N15 := Fr.snoc X15 N0 f16
  have hR17 := hR10.trans (CHr.wr W15 sf11 hR10.1)
  have sf18 : Safe Z own_EL (s.setVm T10.vm).vm h15 a1 := Safe.wr W15 sf11 hR10.1 sf11
  have Fw15 : Fld Z h15 a1 cC3 "value" "[B" (VR b10) := F14.same W15
  refine own_go st15 ?_
  show own_Fin p e below _ T15 (mkF m 17 #[SR a1, SR a2, SI p3, SI p4, SN, SU] [])
  refine own_go (fun _ k => XS.aloadN X15.here hx rfl (hb hby d4_17) rfl rfl k) ?_
  show own_Fin p e below _ T15 (mkF m 18 #[SR a1, SR a2, SI p3, SI p4, SN, SU] [VR a1])
  have F19 : Exa Z h15 a1 cC3 := (F13.wr W15)
  have z20 : h10.size ≤ h15.size := (Nat.le_of_eq (Wr.size W15).symm)
  obtain ⟨a21, T21, h21, k21, b21, kb21, X21, e21, E21, hS21, hk21, hZ21, ho21, xA21, xC21, xV21, xB21, la21, lb21, hC21, -, hs21, st21⟩ := ldcCH (vm0 := (s.setVm T10.vm).vm) X15 hx hZ10 ho10 (WW hw 24) wS e15 hS10 (Nat.le_trans hk10 z20) hEL (List.mem_of_getElem? (i := 0) rfl) hR17.1 (vs := []) (z := 0) ⟨by decide, rfl⟩ (by decide) rfl (g := (mkF m 18 #[SR a1, SR a2, SI p3, SI p4, SN, SU] [VR a1])) rfl (hb hby d4_18) (n := 0) (by decide) (by decide) (by decide) (by decide)
  have z22 : h0.size ≤ h10.size := E10.1
  have z23 : h0.size ≤ h15.size := Nat.le_trans z22 (Nat.le_of_eq (Wr.size W15).symm)
  have hR21 := hR17.trans hC21
  have sf24 : Safe Z own_EL (s.setVm T21.vm).vm h21 a1 := CHr.safe hC21 (Nat.lt_of_lt_of_le f7.lt z23) sf18
  refine own_go st21 ?_
  show own_Fin p e below _ T21 (mkF m 20 #[SR a1, SR a2, SI p3, SI p4, SN, SU] [VR a21, VR a1])
  obtain ⟨T25, X25, e25, st25⟩ := getF X21 hx hZ21 ho21 (host := "") (Or.inl (WW hw 31)) Via.refl e21 xC21 (g := (mkF m 20 #[SR a1, SR a2, SI p3, SI p4, SN, SU] [VR a21, VR a1])) rfl rfl (hb hby d4_20)
  refine own_go st25 ?_
  show own_Fin p e below _ T25 (mkF m 23 #[SR a1, SR a2, SI p3, SI p4, SN, SU] [VI 0, VR a1])
  have F26 : Exa Z h21 a1 cC3 := (F19.ext E21)
  have F28 : Fld Z h21 a1 cC3 "coder" "B" (VI 0) := (((f27.ext E10).other W15 (Or.inr (slot_ne (Or.inr (WW hw 27)) (Or.inr (WW hw 26)) (by decide) (t := .byte) (t' := (.array .byte)) (by decide) (by decide)))).ext E21)
  obtain ⟨T29, h29, X29, e29, W29, st29⟩ := putF X25 hx hZ21 ho21 (host := "") (Or.inl (WW hw 31)) Via.refl e25 F28 F26 (Or.inr ⟨(WW hw 27), rfl, hnm⟩) (WW hw 11) (ty := .byte) (by decide) rfl rfl (g := (mkF m 23 #[SR a1, SR a2, SI p3, SI p4, SN, SU] [VI 0, VR a1])) rfl rfl (hb hby d4_23)
  have N29 := Fr.snoc X29 N15 f16
  have hR30 := hR21.trans (CHr.wr W29 sf24 hR21.1)
  have sf31 : Safe Z own_EL (s.setVm T21.vm).vm h29 a1 := Safe.wr W29 sf24 hR21.1 sf24
  have Fw29 : Fld Z h29 a1 cC3 "coder" "B" (VI 0) := F28.same W29
  refine own_go st29 ?_
  show own_Fin p e below _ T29 (mkF m 26 #[SR a1, SR a2, SI p3, SI p4, SN, SU] [])
  have F32 : Exa Z h29 a1 cC3 := (F26.wr W29)
  have F33 : Fld Z h29 a1 cC3 "value" "[B" (VR b10) := ((Fw15.ext E21).other W29 (Or.inr (slot_ne (Or.inr (WW hw 26)) (Or.inr (WW hw 27)) (by decide) (t := (.array .byte)) (t' := .byte) (by decide) (by decide))))
  have F34 : Arv Z h29 b10 kb10 .byte 0 [] (VI 0) := (((xB10.other W15 (Ne.symm (hs10 a1 sf11).2)).ext E21).other W29 (Ne.symm (hs10 a1 sf11).2))
  have K35 : Keep h0 h29 [a1] := (((((Keep.refl h0 [a1]).ext E10).wr W15 (Or.inl (List.mem_of_getElem? (i := 0) rfl))).ext E21).wr W29 (Or.inl (List.mem_of_getElem? (i := 0) rfl)))
  have z36 : h21.size ≤ h29.size := (Nat.le_of_eq (Wr.size W29).symm)
  obtain ⟨fs, hr, hrun, hended, hend⟩ := Jvm.Stand.leaveW X29 hS21 (by rw [e29]; exact (Nat.le_trans hk21 z36)) (v := none) (fun _ => rfl)
  refine own_end (X29.returnOut hx hret (hb hby d4_26) hr) hrun hended ⟨_, _, rfl, ?_, ?_, hend.1, hend.2.1, hend.2.2.1, hend.2.2.2.mono (by decide) (by decide)⟩
  · show Q4_1 Z a1 a2 p3 p4 h0 n0 _ T29.heap _
    rw [e29]
    exact ⟨b10, kb10, rfl, N29, K35, F32, F33, Fw29, F34⟩
  · show CHr Z own_EL s.vm s.heap T29.vm T29.heap
    rw [hh, e29]
    exact hR30.trans (CHv.at X29 hZ21 hEL hR30.1)
theorem ef3_1 (m : MethodId) (a1 : Addr) (a2 : Addr) : entryFrame m #[(.ref a1), (.ref a2)] 2 = mkF m 0 #[SR a1, SR a2] [] := by first | (simp [entryFrame, mkF, argsToLocals, Value.category]; done) | rfl
def Q3_1 (Z : State) (a1 : Addr) (a2 : Addr) (k3 : ClassId) (h0 : Heap) (n0 : Nat) (v : Option Value) (h : Heap) (L : List Loc) : Prop := ∃ (b10_9 : Addr) (kb10_9 : ClassId), v = none ∧ Fr n0 L ∧ Keep h0 h [a1] ∧ Exa Z h a1 cC3 ∧ Fld Z h a1 cC3 "value" "[B" (VR b10_9) ∧ Fld Z h a1 cC3 "coder" "B" (VI 0) ∧ Arv Z h b10_9 kb10_9 .byte 0 [] (VI 0)
set_option maxRecDepth 65536 in
set_option maxHeartbeats 40000000 in
theorem rm3_1 (l : Launch) (Z : State) (a0 : Array Value) (hw : HW a0 Z) (ws : List Jvm.Cond) (a1 : Addr) (a2 : Addr) (k3 : ClassId) (h0 : Heap) (n0 : Nat) (Z0 : n0 ≤ h0.size) (f4 : Arv Z h0 a2 k3 .char 0 [] (VI 0)) (f6 : Exa Z h0 a1 cC3) (f7 : Fld Z h0 a1 cC3 "value" "[B" (.null)) (f8 : Fld Z h0 a1 cC3 "coder" "B" (VI 0)) (f10 : n0 ≤ a1) :
    MetFree l yM2 (head1 (Jvm.Cond.code yM2 jdk_42_method_3_code 2 none :: ws) ({ frames := 2, cells := 4, slots := 8, locals := 29 } : Room)) (fun a U => a = #[(.ref a1), (.ref a2)] ∧ Z.Warmed39 U.vm ∧ U.heap = h0 ∧ CHv Z own_EL U.vm h0) (fun _ _ _ _ _ => True) (fun _ U o U' => ∃ v L, o = .returned v ∧ Q3_1 Z a1 a2 k3 h0 n0 v U'.heap L ∧ CHr Z own_EL U.vm U.heap U'.vm U'.heap ∧ ReturnedEndW U o U' L ({ frames := 2, cells := 4, slots := 8, locals := 29 } : Room).cells ({ frames := 2, cells := 4, slots := 8, locals := 29 } : Room).slots) := by
  refine own_enterH (n0 := n0) (plainFor_of_name pn3) (fun m => ef3_1 m a1 a2) ?_
  intro p e s m below meth c s₁ hx hby hml hown hnm hret hlk XY0 e0 hZ hh N0 hC0
  have X0 : Stand p l e ({ frames := 2, cells := 4, slots := 8, locals := 29 } : Room) (s.setVm s.vm) m _ below meth c s₁ [] 0 0 := XY0
  have hS0 : s.Since s.vm h0.size := (State.WarmedH.refl s).since _
  have hk0 : h0.size ≤ h0.size := Nat.le_refl _
  have hEL : EW Z a0 own_EL := (EW.cons (WW hw 24) (by decide) EW.nil)
  have hR0 : CHr Z own_EL s.vm h0 s.vm h0 := CHr.refl hC0
  show own_Fin p e below _ s₁ (mkF m 0 #[SR a1, SR a2] [])
  refine own_go (fun _ k => XS.aloadN X0.here hx rfl (hb hby d3_0) rfl rfl (XS.aloadN X0.here hx rfl (hb hby d3_1) rfl rfl (XS.iconst X0.here hx rfl (hb hby d3_2) (XS.aloadN X0.here hx rfl (hb hby d3_3) rfl rfl k)))) ?_
  show own_Fin p e below _ s₁ (mkF m 4 #[SR a1, SR a2] [VR a2, VI 0, VR a2, VR a1])
  obtain ⟨cl5, Ar5, q5, Sz5, Nn5, Hs5, Gg5⟩ := id f4
  refine own_go (fun _ k => X0.arraylength hx (by rw [e0]; exact Ar5.1) (State.isArrayOf_alike hZ.alike Ar5.2.1) (g := (mkF m 4 #[SR a1, SR a2] [VR a2, VI 0, VR a2, VR a1])) rfl rfl (hb hby d3_4) _ k) ?_
  rw [len_of Sz5 Nn5]
  show own_Fin p e below _ s₁ (mkF m 5 #[SR a1, SR a2] [VI 0, VI 0, VR a2, VR a1])
  refine own_go (fun _ k => XS.aconstNull X0.here hx rfl (hb hby d3_5) k) ?_
  show own_Fin p e below _ s₁ (mkF m 6 #[SR a1, SR a2] [.null, VI 0, VI 0, VR a2, VR a1])
  obtain ⟨_, T9, L9, X9, hQ9, hS9, hZ9, ho9, hC9, st9⟩ := own_cIH (vm0 := (s.setVm s.vm).vm) X0 hx hZ hown hS0 hk0 hEL hR0.1 (WW hw 17) (WW hw 18) (WW hw 12) (WW hw 20) (rm4_1 l Z a0 hw [] a1 a2 (0 : Int32) (0 : Int32) h0 n0 Z0 (by decide : (0 : Int32) = (0 : Int32)) f6 f7 f10 f8) e0 hml (g := (mkF m 6 #[SR a1, SR a2] [.null, VI 0, VI 0, VR a2, VR a1])) pd1 (hb hby d3_6) a1 [VR a2, VI 0, VI 0, .null] [] (W := 0)
  have hR9 := hR0.trans hC9
  obtain ⟨b10_9, kb10_9, rfl, N9q, K9, o0_9, o1_9, o2_9, o3_9⟩ := hQ9
  have N9 := Fr.app N0 N9q
  refine own_go st9 ?_
  show own_Fin p e below _ T9 (mkF m 9 #[SR a1, SR a2] [])
  have K11 : Keep h0 T9.heap [a1] := ((Keep.refl h0 [a1]).trans K9 (allS (Or.inl (List.mem_of_getElem? (i := 0) rfl)) all0))
  obtain ⟨fs, hr, hrun, hended, hend⟩ := Jvm.Stand.leaveW X9 hS9 (Nat.le_refl _) (v := none) (fun _ => rfl)
  refine own_end (X9.returnOut hx hret (hb hby d3_9) hr) hrun hended ⟨_, _, rfl, ?_, ?_, hend.1, hend.2.1, hend.2.2.1, hend.2.2.2.mono (by decide) (by decide)⟩
  · show Q3_1 Z a1 a2 k3 h0 n0 _ T9.heap _
    exact ⟨b10_9, kb10_9, rfl, N9, K11, o0_9, o1_9, o2_9, o3_9⟩
  · show CHr Z own_EL s.vm s.heap T9.vm T9.heap
    rw [hh]
    exact hR9.trans (CHv.at X9 hZ9 hEL hR9.1)
def own_f19_m4 (P1_ : Int32) : Int32 := (if (((P1_.toUInt32 >>> ((26 : Int32) &&& 31).toUInt32).toInt32) &&& (1 : Int32)) = (0 : Int32) then (nar .char ((((P1_.toUInt32 >>> ((0 : Int32) &&& 31).toUInt32).toInt32) &&& (255 : Int32)).toUInt32.toUInt16.toUInt32.toInt32)) else (63 : Int32))
theorem ef19_m4 (m : MethodId) (P1_ : Int32) : entryFrame m #[(.int P1_), (.int (0 : Int32))] 2 = mkF m 0 #[SI P1_, SI 0] [] := by first | (simp [entryFrame, mkF, argsToLocals, Value.category]; done) | rfl
def Q19_m4 (Z : State) (P1_ : Int32) (h0 : Heap) (n0 : Nat) (v : Option Value) (h : Heap) (L : List Loc) : Prop := v = some (.int (own_f19_m4 P1_)) ∧ Fr n0 L ∧ h = h0
set_option maxRecDepth 65536 in
set_option maxHeartbeats 40000000 in
theorem rm19_m4 (l : Launch) (Z : State) (a0 : Array Value) (hw : HW a0 Z) (ws : List Jvm.Cond) (P1_ : Int32) (h0 : Heap) (n0 : Nat) (Z0 : n0 ≤ h0.size) :
    MetFree l yM3 (head1 (Jvm.Cond.code yM3 method_3_code 2 (some .char) :: ws) ({ frames := 0, cells := 0, slots := 0, locals := 0 } : Room)) (fun a U => a = #[(.int P1_), (.int (0 : Int32))] ∧ Z.Warmed39 U.vm ∧ U.heap = h0) (fun _ _ _ _ _ => True) (fun _ U o U' => ∃ v L, o = .returned v ∧ Q19_m4 Z P1_ h0 n0 v U'.heap L ∧ FrameEnd U o U' L ({ frames := 0, cells := 0, slots := 0, locals := 0 } : Room).cells ({ frames := 0, cells := 0, slots := 0, locals := 0 } : Room).slots) := by
  refine own_enter (n0 := n0) (plainFor_of_name pn0) (fun m => ef19_m4 m P1_) ?_
  intro p e s m below meth c s₁ hx hby hml hown hnm hret hlk X0 e0 hZ hh N0
  show own_Fin p e below _ s₁ (mkF m 0 #[SI P1_, SI 0] [])
  by_cases hm0 : (((P1_.toUInt32 >>> ((26 : Int32) &&& 31).toUInt32).toInt32) &&& (1 : Int32)) = (0 : Int32)
  ·
    refine own_go (fun _ k => XS.iloadN X0.here hx rfl (hb hby d19_0) rfl (XS.bipush X0.here hx rfl (hb hby d19_1) (XS.iloadN X0.here hx rfl (hb hby d19_3) rfl (XS.iadd X0.here hx rfl (hb hby d19_4) rfl (XS.iushr X0.here hx rfl (hb hby d19_5) rfl (XS.iconst X0.here hx rfl (hb hby d19_6) (XS.iand X0.here hx rfl (hb hby d19_7) rfl (XS.ifYes X0.here hx rfl (pc0 := 8) (pc' := 14) rfl (hb hby d19_8) rfl ((if0 _ _).trans (teq hm0).1) (by decide) (by decide) (XS.iloadN X0.here hx rfl (hb hby d19_14) rfl (XS.bipush X0.here hx rfl (hb hby d19_15) k)))))))))) ?_
    show own_Fin p e below _ s₁ (mkF m 17 #[SI P1_, SI 0] [VI 8, VI P1_])
    refine own_go (fun _ k => XS.iloadN X0.here hx rfl (hb hby d19_17) rfl (XS.imul X0.here hx rfl (hb hby d19_18) rfl (XS.iushr X0.here hx rfl (hb hby d19_19) rfl (XS.sipush X0.here hx rfl (hb hby d19_20) (XS.iand X0.here hx rfl (hb hby d19_23) rfl (XS.i2c X0.here hx rfl (hb hby d19_24) rfl k)))))) ?_
    show own_Fin p e below _ s₁ (mkF m 25 #[SI P1_, SI 0] [VI ((((P1_.toUInt32 >>> ((0 : Int32) &&& 31).toUInt32).toInt32) &&& (255 : Int32)).toUInt32.toUInt16.toUInt32.toInt32)])
    obtain ⟨fs, hr, hrun, hended, hW, hsame⟩ := X0.leave (v := some (.int (nar .char ((((P1_.toUInt32 >>> ((0 : Int32) &&& 31).toUInt32).toInt32) &&& (255 : Int32)).toUInt32.toUInt16.toUInt32.toInt32)))) (fun h => by rw [hret] at h; cases h)
    refine own_end (retN X0 hx (t := .char) hret (by simp) (hb hby d19_25) hr) hrun hended ⟨_, _, rfl, ?_, ⟨_, rfl⟩, hW, hsame.mono (by decide) (by decide)⟩
    show Q19_m4 Z P1_ h0 n0 _ s₁.heap _
    rw [e0]
    exact ⟨by simp only [own_f19_m4, hm0, ↓reduceIte], N0, rfl⟩
  ·
    refine own_go (fun _ k => XS.iloadN X0.here hx rfl (hb hby d19_0) rfl (XS.bipush X0.here hx rfl (hb hby d19_1) (XS.iloadN X0.here hx rfl (hb hby d19_3) rfl (XS.iadd X0.here hx rfl (hb hby d19_4) rfl (XS.iushr X0.here hx rfl (hb hby d19_5) rfl (XS.iconst X0.here hx rfl (hb hby d19_6) (XS.iand X0.here hx rfl (hb hby d19_7) rfl (XS.ifNo X0.here hx rfl (hb hby d19_8) rfl ((if0 _ _).trans (feq hm0).1) (XS.bipush X0.here hx rfl (hb hby d19_11) k))))))))) ?_
    show own_Fin p e below _ s₁ (mkF m 13 #[SI P1_, SI 0] [VI 63])
    obtain ⟨fs, hr, hrun, hended, hW, hsame⟩ := X0.leave (v := some (.int (63 : Int32))) (fun h => by rw [hret] at h; cases h)
    refine own_end (retN X0 hx (t := .char) hret (by simp) (hb hby d19_13) hr) hrun hended ⟨_, _, rfl, ?_, ⟨_, rfl⟩, hW, hsame.mono (by decide) (by decide)⟩
    show Q19_m4 Z P1_ h0 n0 _ s₁.heap _
    rw [e0]
    exact ⟨by simp only [own_f19_m4, hm0, ↓reduceIte], N0, rfl⟩
theorem own_chr_19_m4 (x : Int32) : ¬ nar .char (own_f19_m4 x) < 0 ∧ ¬ (255 : Int32) < nar .char (own_f19_m4 x) := by
  unfold own_f19_m4
  split
  · exact own_nar2 _
  · decide
theorem own_b63_19_m4 (x : Int32) : (nar .char (own_f19_m4 x)).toInt8.toInt32 = (63 : Int32) ↔ own_f19_m4 x = (63 : Int32) := by
  unfold own_f19_m4
  split
  · exact own_b63c _
  · decide
def own_f19_m5 (P1_ : Int32) : Int32 := (if (((P1_.toUInt32 >>> ((27 : Int32) &&& 31).toUInt32).toInt32) &&& (1 : Int32)) = (0 : Int32) then (nar .char ((((P1_.toUInt32 >>> ((8 : Int32) &&& 31).toUInt32).toInt32) &&& (255 : Int32)).toUInt32.toUInt16.toUInt32.toInt32)) else (63 : Int32))
theorem ef19_m5 (m : MethodId) (P1_ : Int32) : entryFrame m #[(.int P1_), (.int (1 : Int32))] 2 = mkF m 0 #[SI P1_, SI 1] [] := by first | (simp [entryFrame, mkF, argsToLocals, Value.category]; done) | rfl
def Q19_m5 (Z : State) (P1_ : Int32) (h0 : Heap) (n0 : Nat) (v : Option Value) (h : Heap) (L : List Loc) : Prop := v = some (.int (own_f19_m5 P1_)) ∧ Fr n0 L ∧ h = h0
set_option maxRecDepth 65536 in
set_option maxHeartbeats 40000000 in
theorem rm19_m5 (l : Launch) (Z : State) (a0 : Array Value) (hw : HW a0 Z) (ws : List Jvm.Cond) (P1_ : Int32) (h0 : Heap) (n0 : Nat) (Z0 : n0 ≤ h0.size) :
    MetFree l yM3 (head1 (Jvm.Cond.code yM3 method_3_code 2 (some .char) :: ws) ({ frames := 0, cells := 0, slots := 0, locals := 0 } : Room)) (fun a U => a = #[(.int P1_), (.int (1 : Int32))] ∧ Z.Warmed39 U.vm ∧ U.heap = h0) (fun _ _ _ _ _ => True) (fun _ U o U' => ∃ v L, o = .returned v ∧ Q19_m5 Z P1_ h0 n0 v U'.heap L ∧ FrameEnd U o U' L ({ frames := 0, cells := 0, slots := 0, locals := 0 } : Room).cells ({ frames := 0, cells := 0, slots := 0, locals := 0 } : Room).slots) := by
  refine own_enter (n0 := n0) (plainFor_of_name pn0) (fun m => ef19_m5 m P1_) ?_
  intro p e s m below meth c s₁ hx hby hml hown hnm hret hlk X0 e0 hZ hh N0
  show own_Fin p e below _ s₁ (mkF m 0 #[SI P1_, SI 1] [])
  by_cases hm0 : (((P1_.toUInt32 >>> ((27 : Int32) &&& 31).toUInt32).toInt32) &&& (1 : Int32)) = (0 : Int32)
  ·
    refine own_go (fun _ k => XS.iloadN X0.here hx rfl (hb hby d19_0) rfl (XS.bipush X0.here hx rfl (hb hby d19_1) (XS.iloadN X0.here hx rfl (hb hby d19_3) rfl (XS.iadd X0.here hx rfl (hb hby d19_4) rfl (XS.iushr X0.here hx rfl (hb hby d19_5) rfl (XS.iconst X0.here hx rfl (hb hby d19_6) (XS.iand X0.here hx rfl (hb hby d19_7) rfl (XS.ifYes X0.here hx rfl (pc0 := 8) (pc' := 14) rfl (hb hby d19_8) rfl ((if0 _ _).trans (teq hm0).1) (by decide) (by decide) (XS.iloadN X0.here hx rfl (hb hby d19_14) rfl (XS.bipush X0.here hx rfl (hb hby d19_15) k)))))))))) ?_
    show own_Fin p e below _ s₁ (mkF m 17 #[SI P1_, SI 1] [VI 8, VI P1_])
    refine own_go (fun _ k => XS.iloadN X0.here hx rfl (hb hby d19_17) rfl (XS.imul X0.here hx rfl (hb hby d19_18) rfl (XS.iushr X0.here hx rfl (hb hby d19_19) rfl (XS.sipush X0.here hx rfl (hb hby d19_20) (XS.iand X0.here hx rfl (hb hby d19_23) rfl (XS.i2c X0.here hx rfl (hb hby d19_24) rfl k)))))) ?_
    show own_Fin p e below _ s₁ (mkF m 25 #[SI P1_, SI 1] [VI ((((P1_.toUInt32 >>> ((8 : Int32) &&& 31).toUInt32).toInt32) &&& (255 : Int32)).toUInt32.toUInt16.toUInt32.toInt32)])
    obtain ⟨fs, hr, hrun, hended, hW, hsame⟩ := X0.leave (v := some (.int (nar .char ((((P1_.toUInt32 >>> ((8 : Int32) &&& 31).toUInt32).toInt32) &&& (255 : Int32)).toUInt32.toUInt16.toUInt32.toInt32)))) (fun h => by rw [hret] at h; cases h)
    refine own_end (retN X0 hx (t := .char) hret (by simp) (hb hby d19_25) hr) hrun hended ⟨_, _, rfl, ?_, ⟨_, rfl⟩, hW, hsame.mono (by decide) (by decide)⟩
    show Q19_m5 Z P1_ h0 n0 _ s₁.heap _
    rw [e0]
    exact ⟨by simp only [own_f19_m5, hm0, ↓reduceIte], N0, rfl⟩
  ·
    refine own_go (fun _ k => XS.iloadN X0.here hx rfl (hb hby d19_0) rfl (XS.bipush X0.here hx rfl (hb hby d19_1) (XS.iloadN X0.here hx rfl (hb hby d19_3) rfl (XS.iadd X0.here hx rfl (hb hby d19_4) rfl (XS.iushr X0.here hx rfl (hb hby d19_5) rfl (XS.iconst X0.here hx rfl (hb hby d19_6) (XS.iand X0.here hx rfl (hb hby d19_7) rfl (XS.ifNo X0.here hx rfl (hb hby d19_8) rfl ((if0 _ _).trans (feq hm0).1) (XS.bipush X0.here hx rfl (hb hby d19_11) k))))))))) ?_
    show own_Fin p e below _ s₁ (mkF m 13 #[SI P1_, SI 1] [VI 63])
    obtain ⟨fs, hr, hrun, hended, hW, hsame⟩ := X0.leave (v := some (.int (63 : Int32))) (fun h => by rw [hret] at h; cases h)
    refine own_end (retN X0 hx (t := .char) hret (by simp) (hb hby d19_13) hr) hrun hended ⟨_, _, rfl, ?_, ⟨_, rfl⟩, hW, hsame.mono (by decide) (by decide)⟩
    show Q19_m5 Z P1_ h0 n0 _ s₁.heap _
    rw [e0]
    exact ⟨by simp only [own_f19_m5, hm0, ↓reduceIte], N0, rfl⟩
theorem own_chr_19_m5 (x : Int32) : ¬ nar .char (own_f19_m5 x) < 0 ∧ ¬ (255 : Int32) < nar .char (own_f19_m5 x) := by
  unfold own_f19_m5
  split
  · exact own_nar2 _
  · decide
theorem own_b63_19_m5 (x : Int32) : (nar .char (own_f19_m5 x)).toInt8.toInt32 = (63 : Int32) ↔ own_f19_m5 x = (63 : Int32) := by
  unfold own_f19_m5
  split
  · exact own_b63c _
  · decide
def own_f19_m6 (P1_ : Int32) : Int32 := (if (((P1_.toUInt32 >>> ((28 : Int32) &&& 31).toUInt32).toInt32) &&& (1 : Int32)) = (0 : Int32) then (nar .char ((((P1_.toUInt32 >>> ((16 : Int32) &&& 31).toUInt32).toInt32) &&& (255 : Int32)).toUInt32.toUInt16.toUInt32.toInt32)) else (63 : Int32))
theorem ef19_m6 (m : MethodId) (P1_ : Int32) : entryFrame m #[(.int P1_), (.int (2 : Int32))] 2 = mkF m 0 #[SI P1_, SI 2] [] := by first | (simp [entryFrame, mkF, argsToLocals, Value.category]; done) | rfl
def Q19_m6 (Z : State) (P1_ : Int32) (h0 : Heap) (n0 : Nat) (v : Option Value) (h : Heap) (L : List Loc) : Prop := v = some (.int (own_f19_m6 P1_)) ∧ Fr n0 L ∧ h = h0
set_option maxRecDepth 65536 in
set_option maxHeartbeats 40000000 in
theorem rm19_m6 (l : Launch) (Z : State) (a0 : Array Value) (hw : HW a0 Z) (ws : List Jvm.Cond) (P1_ : Int32) (h0 : Heap) (n0 : Nat) (Z0 : n0 ≤ h0.size) :
    MetFree l yM3 (head1 (Jvm.Cond.code yM3 method_3_code 2 (some .char) :: ws) ({ frames := 0, cells := 0, slots := 0, locals := 0 } : Room)) (fun a U => a = #[(.int P1_), (.int (2 : Int32))] ∧ Z.Warmed39 U.vm ∧ U.heap = h0) (fun _ _ _ _ _ => True) (fun _ U o U' => ∃ v L, o = .returned v ∧ Q19_m6 Z P1_ h0 n0 v U'.heap L ∧ FrameEnd U o U' L ({ frames := 0, cells := 0, slots := 0, locals := 0 } : Room).cells ({ frames := 0, cells := 0, slots := 0, locals := 0 } : Room).slots) := by
  refine own_enter (n0 := n0) (plainFor_of_name pn0) (fun m => ef19_m6 m P1_) ?_
  intro p e s m below meth c s₁ hx hby hml hown hnm hret hlk X0 e0 hZ hh N0
  show own_Fin p e below _ s₁ (mkF m 0 #[SI P1_, SI 2] [])
  by_cases hm0 : (((P1_.toUInt32 >>> ((28 : Int32) &&& 31).toUInt32).toInt32) &&& (1 : Int32)) = (0 : Int32)
  ·
    refine own_go (fun _ k => XS.iloadN X0.here hx rfl (hb hby d19_0) rfl (XS.bipush X0.here hx rfl (hb hby d19_1) (XS.iloadN X0.here hx rfl (hb hby d19_3) rfl (XS.iadd X0.here hx rfl (hb hby d19_4) rfl (XS.iushr X0.here hx rfl (hb hby d19_5) rfl (XS.iconst X0.here hx rfl (hb hby d19_6) (XS.iand X0.here hx rfl (hb hby d19_7) rfl (XS.ifYes X0.here hx rfl (pc0 := 8) (pc' := 14) rfl (hb hby d19_8) rfl ((if0 _ _).trans (teq hm0).1) (by decide) (by decide) (XS.iloadN X0.here hx rfl (hb hby d19_14) rfl (XS.bipush X0.here hx rfl (hb hby d19_15) k)))))))))) ?_
    show own_Fin p e below _ s₁ (mkF m 17 #[SI P1_, SI 2] [VI 8, VI P1_])
    refine own_go (fun _ k => XS.iloadN X0.here hx rfl (hb hby d19_17) rfl (XS.imul X0.here hx rfl (hb hby d19_18) rfl (XS.iushr X0.here hx rfl (hb hby d19_19) rfl (XS.sipush X0.here hx rfl (hb hby d19_20) (XS.iand X0.here hx rfl (hb hby d19_23) rfl (XS.i2c X0.here hx rfl (hb hby d19_24) rfl k)))))) ?_
    show own_Fin p e below _ s₁ (mkF m 25 #[SI P1_, SI 2] [VI ((((P1_.toUInt32 >>> ((16 : Int32) &&& 31).toUInt32).toInt32) &&& (255 : Int32)).toUInt32.toUInt16.toUInt32.toInt32)])
    obtain ⟨fs, hr, hrun, hended, hW, hsame⟩ := X0.leave (v := some (.int (nar .char ((((P1_.toUInt32 >>> ((16 : Int32) &&& 31).toUInt32).toInt32) &&& (255 : Int32)).toUInt32.toUInt16.toUInt32.toInt32)))) (fun h => by rw [hret] at h; cases h)
    refine own_end (retN X0 hx (t := .char) hret (by simp) (hb hby d19_25) hr) hrun hended ⟨_, _, rfl, ?_, ⟨_, rfl⟩, hW, hsame.mono (by decide) (by decide)⟩
    show Q19_m6 Z P1_ h0 n0 _ s₁.heap _
    rw [e0]
    exact ⟨by simp only [own_f19_m6, hm0, ↓reduceIte], N0, rfl⟩
  ·
    refine own_go (fun _ k => XS.iloadN X0.here hx rfl (hb hby d19_0) rfl (XS.bipush X0.here hx rfl (hb hby d19_1) (XS.iloadN X0.here hx rfl (hb hby d19_3) rfl (XS.iadd X0.here hx rfl (hb hby d19_4) rfl (XS.iushr X0.here hx rfl (hb hby d19_5) rfl (XS.iconst X0.here hx rfl (hb hby d19_6) (XS.iand X0.here hx rfl (hb hby d19_7) rfl (XS.ifNo X0.here hx rfl (hb hby d19_8) rfl ((if0 _ _).trans (feq hm0).1) (XS.bipush X0.here hx rfl (hb hby d19_11) k))))))))) ?_
    show own_Fin p e below _ s₁ (mkF m 13 #[SI P1_, SI 2] [VI 63])
    obtain ⟨fs, hr, hrun, hended, hW, hsame⟩ := X0.leave (v := some (.int (63 : Int32))) (fun h => by rw [hret] at h; cases h)
    refine own_end (retN X0 hx (t := .char) hret (by simp) (hb hby d19_13) hr) hrun hended ⟨_, _, rfl, ?_, ⟨_, rfl⟩, hW, hsame.mono (by decide) (by decide)⟩
    show Q19_m6 Z P1_ h0 n0 _ s₁.heap _
    rw [e0]
    exact ⟨by simp only [own_f19_m6, hm0, ↓reduceIte], N0, rfl⟩
theorem own_chr_19_m6 (x : Int32) : ¬ nar .char (own_f19_m6 x) < 0 ∧ ¬ (255 : Int32) < nar .char (own_f19_m6 x) := by
  unfold own_f19_m6
  split
  · exact own_nar2 _
  · decide
theorem own_b63_19_m6 (x : Int32) : (nar .char (own_f19_m6 x)).toInt8.toInt32 = (63 : Int32) ↔ own_f19_m6 x = (63 : Int32) := by
  unfold own_f19_m6
  split
  · exact own_b63c _
  · decide
theorem ef1_m3 (m : MethodId) (P1_ : Int32) : entryFrame m #[(.int P1_)] 2 = mkF m 0 #[SI P1_, SU] [] := by first | (simp [entryFrame, mkF, argsToLocals, Value.category]; done) | rfl
def Q1_m3 (Z : State) (P1_ : Int32) (P2_ : Int32) (h0 : Heap) (n0 : Nat) (v : Option Value) (h : Heap) (L : List Loc) : Prop := ∃ r0 : Addr, v = some (.ref r0) ∧ Fr n0 L ∧ Keep h0 h [] ∧ Exa Z h r0 cC3
set_option maxRecDepth 65536 in
set_option maxHeartbeats 40000000 in
theorem rm1_m3 (l : Launch) (Z : State) (a0 : Array Value) (hw : HW a0 Z) (ws : List Jvm.Cond) (P1_ : Int32) (P2_ : Int32) (h0 : Heap) (n0 : Nat) (Z0 : n0 ≤ h0.size) (fm1_ : Sta Z Z.heap "java/lang/String" "COMPACT_STRINGS" "Z" (.int P2_)) (fm2_ : Old Z n0 h0) (fm3_ : ¬ (P2_ = (0 : Int32))) :
    MetFree l yM4 (head1 (Jvm.Cond.code yM4 method_5_code 2 (some (.object "java/lang/String")) :: ws) ({ frames := 4, cells := 6, slots := 12, locals := 66 } : Room)) (fun a U => a = #[(.int P1_)] ∧ Z.Warmed39 U.vm ∧ U.heap = h0 ∧ CHv Z own_EL U.vm h0) (fun _ _ _ _ _ => True) (fun _ U o U' => ∃ v L, o = .returned v ∧ Q1_m3 Z P1_ P2_ h0 n0 v U'.heap L ∧ CHr Z own_EL U.vm U.heap U'.vm U'.heap ∧ ReturnedEndW U o U' L ({ frames := 4, cells := 6, slots := 12, locals := 66 } : Room).cells ({ frames := 4, cells := 6, slots := 12, locals := 66 } : Room).slots) := by
  refine own_enterH (n0 := n0) (plainFor_of_name pn0) (fun m => ef1_m3 m P1_) ?_
  intro p e s m below meth c s₁ hx hby hml hown hnm hret hlk XY0 e0 hZ hh N0 hC0
  have X0 : Stand p l e ({ frames := 4, cells := 6, slots := 12, locals := 66 } : Room) (s.setVm s.vm) m _ below meth c s₁ [] 0 0 := XY0
  have hS0 : s.Since s.vm h0.size := (State.WarmedH.refl s).since _
  have hk0 : h0.size ≤ h0.size := Nat.le_refl _
  have hEL : EW Z a0 own_EL := (EW.cons (WW hw 24) (by decide) EW.nil)
  have hR0 : CHr Z own_EL s.vm h0 s.vm h0 := CHr.refl hC0
  show own_Fin p e below _ s₁ (mkF m 0 #[SI P1_, SU] [])
  refine own_go (fun _ k => XS.iloadN X0.here hx rfl (hb hby d1_0) rfl k) ?_
  show own_Fin p e below _ s₁ (mkF m 1 #[SI P1_, SU] [VI P1_])
  obtain ⟨_, T1, L1, X1, hQ1, st1⟩ := own_cS X0 hx hZ hown (WW hw 7) (WW hw 8) (WW hw 5) (WW hw 9) (rm2_1 l Z a0 hw [] P1_ h0 n0 Z0 ) e0 hml (g := (mkF m 1 #[SI P1_, SU] [VI P1_])) pd0 (hb hby d1_1) [VI P1_] [] (W := 0)
  obtain ⟨rfl, N1q, e1⟩ := hQ1
  have N1 := Fr.app N0 N1q
  refine own_go st1 ?_
  show own_Fin p e below _ T1 (mkF m 4 #[SI P1_, SU] [VI (((P1_.toUInt32 >>> ((24 : Int32) &&& 31).toUInt32).toInt32) &&& (3 : Int32))])
  by_cases hm0 : (((P1_.toUInt32 >>> ((24 : Int32) &&& 31).toUInt32).toInt32) &&& (3 : Int32)) = (0 : Int32)
  ·
    refine own_go (fun _ k => XS.istoreN X1.here hx rfl (hb hby d1_4) rfl (l' := #[SI P1_, SI (((P1_.toUInt32 >>> ((24 : Int32) &&& 31).toUInt32).toInt32) &&& (3 : Int32))]) rfl (XS.iloadN X1.here hx rfl (hb hby d1_5) rfl (XS.ifNo X1.here hx rfl (hb hby d1_6) rfl ((if0 _ _).trans (teq hm0).2) k))) ?_
    show own_Fin p e below _ T1 (mkF m 9 #[SI P1_, SI (((P1_.toUInt32 >>> ((24 : Int32) &&& 31).toUInt32).toInt32) &&& (3 : Int32))] [])
    obtain ⟨T2, h2, X2, e2, E2, A2, D2, -, st2⟩ := newO X1 hx hZ hown (WW hw 10) (WW hw 11) (WW hw 12) e1 (g := (mkF m 9 #[SI P1_, SI (((P1_.toUInt32 >>> ((24 : Int32) &&& 31).toUInt32).toInt32) &&& (3 : Int32))] [])) rfl (hb hby d1_9) (by decide) (by decide)
    obtain ⟨b2, g2⟩ : ∃ z, z = h0.size := ⟨_, rfl⟩
    rw [← g2] at A2 D2 st2
    have hR3 := hR0.trans (CHr.ext E2 hR0.1)
    have F4 : Fld Z h2 b2 cC3 "value" "[B" (.null) := D2 (Or.inr (WW hw 26)) (ty := (.array .byte)) (by decide)
    have F5 : Fld Z h2 b2 cC3 "coder" "B" (VI 0) := D2 (Or.inr (WW hw 27)) (ty := .byte) (by decide)
    refine own_go st2 ?_
    show own_Fin p e below _ T2 (mkF m 12 #[SI P1_, SI (((P1_.toUInt32 >>> ((24 : Int32) &&& 31).toUInt32).toInt32) &&& (3 : Int32))] [VR b2])
    refine own_go (fun _ k => XS.dup X2.here hx rfl (hb hby d1_12) rfl rfl (XS.iconst X2.here hx rfl (hb hby d1_13) k)) ?_
    show own_Fin p e below _ T2 (mkF m 14 #[SI P1_, SI (((P1_.toUInt32 >>> ((24 : Int32) &&& 31).toUInt32).toInt32) &&& (3 : Int32))] [VI 0, VR b2, VR b2])
    obtain ⟨T6, h6, k6, X6, e6, E6, A6, st6⟩ := newP X2 hx hZ (WW hw 13) e2 (g := (mkF m 14 #[SI P1_, SI (((P1_.toUInt32 >>> ((24 : Int32) &&& 31).toUInt32).toInt32) &&& (3 : Int32))] [VI 0, VR b2, VR b2])) rfl (hb hby d1_14) rfl (by decide) (cap := 0) (by decide) (by decide) (by decide) (by decide)
    obtain ⟨b6, g6⟩ : ∃ z, z = h2.size := ⟨_, rfl⟩
    rw [← g6] at A6 st6
    have hR7 := hR3.trans (CHr.ext E6 hR3.1)
    have V6 : Arv Z h6 b6 k6 .char 0 [] (VI 0) := Arv.new A6 (by decide)
    refine own_go st6 ?_
    show own_Fin p e below _ T6 (mkF m 16 #[SI P1_, SI (((P1_.toUInt32 >>> ((24 : Int32) &&& 31).toUInt32).toInt32) &&& (3 : Int32))] [VR b6, VR b2, VR b2])
    have F8 : Exa Z h6 b2 cC3 := (A2.ext E6)
    have F9 : Fld Z h6 b2 cC3 "value" "[B" (.null) := (F4.ext E6)
    have F10 : Fld Z h6 b2 cC3 "coder" "B" (VI 0) := (F5.ext E6)
    have u12 : n0 ≤ b2 := Nat.le_trans Z0 (Nat.le_of_eq g2.symm)
    have z13 : h0.size ≤ h2.size := E2.1
    have z14 : h0.size ≤ h6.size := Nat.le_trans z13 E6.1
    obtain ⟨_, T11, L11, X11, hQ11, hS11, hZ11, ho11, hC11, st11⟩ := own_cIH (vm0 := (s.setVm s.vm).vm) X6 hx hZ hown hS0 (Nat.le_trans hk0 z14) hEL hR7.1 (WW hw 14) (WW hw 15) (WW hw 12) (WW hw 16) (rm3_1 l Z a0 hw [] b2 b6 k6 h6 n0 (Nat.le_trans Z0 z14) V6 F8 F9 F10 u12) e6 hml (g := (mkF m 16 #[SI P1_, SI (((P1_.toUInt32 >>> ((24 : Int32) &&& 31).toUInt32).toInt32) &&& (3 : Int32))] [VR b6, VR b2, VR b2])) pd2 (hb hby d1_16) b2 [VR b6] [VR b2] (W := 1)
    have hR11 := hR7.trans hC11
    obtain ⟨b10_9_11, kb10_9_11, rfl, N11q, K11, o0_11, o1_11, o2_11, o3_11⟩ := hQ11
    have N11 := Fr.app N1 N11q
    refine own_go st11 ?_
    show own_Fin p e below _ T11 (mkF m 19 #[SI P1_, SI (((P1_.toUInt32 >>> ((24 : Int32) &&& 31).toUInt32).toInt32) &&& (3 : Int32))] [VR b2])
    have K15 : Keep h0 T11.heap [] := ((((Keep.refl h0 []).ext E2).ext E6).trans K11 (allS (Or.inr (Nat.le_of_eq g2.symm)) all0))
    obtain ⟨fs, hr, hrun, hended, hend⟩ := Jvm.Stand.leaveW X11 hS11 (Nat.le_refl _) (v := some (.ref b2)) (fun h => by rw [hret] at h; cases h)
    refine own_end (retOut X11 hx hret rfl (Or.inr (Or.inr (Or.inr (Or.inr ⟨rfl, rfl, rfl⟩)))) (hb hby d1_19) hr) hrun hended ⟨_, _, rfl, ?_, ?_, hend.1, hend.2.1, hend.2.2.1, hend.2.2.2.mono (by decide) (by decide)⟩
    · show Q1_m3 Z P1_ P2_ h0 n0 _ T11.heap _
      exact ⟨b2, rfl, N11, K15, o0_11⟩
    · show CHr Z own_EL s.vm s.heap T11.vm T11.heap
      rw [hh]
      exact hR11.trans (CHv.at X11 hZ11 hEL hR11.1)
  ·
    by_cases hm1 : (((P1_.toUInt32 >>> ((24 : Int32) &&& 31).toUInt32).toInt32) &&& (3 : Int32)) = (1 : Int32)
    ·
      refine own_go (fun _ k => XS.istoreN X1.here hx rfl (hb hby d1_4) rfl (l' := #[SI P1_, SI (((P1_.toUInt32 >>> ((24 : Int32) &&& 31).toUInt32).toInt32) &&& (3 : Int32))]) rfl (XS.iloadN X1.here hx rfl (hb hby d1_5) rfl (XS.ifYes X1.here hx rfl (pc0 := 6) (pc' := 20) rfl (hb hby d1_6) rfl ((if0 _ _).trans (feq hm0).2) (by decide) (by decide) (XS.iloadN X1.here hx rfl (hb hby d1_20) rfl (XS.iconst X1.here hx rfl (hb hby d1_21) (XS.icmpNo X1.here hx rfl (hb hby d1_22) rfl (teq hm1).2 k)))))) ?_
      show own_Fin p e below _ T1 (mkF m 25 #[SI P1_, SI (((P1_.toUInt32 >>> ((24 : Int32) &&& 31).toUInt32).toInt32) &&& (3 : Int32))] [])
      obtain ⟨T2, h2, X2, e2, E2, A2, D2, -, st2⟩ := newO X1 hx hZ hown (WW hw 10) (WW hw 11) (WW hw 12) e1 (g := (mkF m 25 #[SI P1_, SI (((P1_.toUInt32 >>> ((24 : Int32) &&& 31).toUInt32).toInt32) &&& (3 : Int32))] [])) rfl (hb hby d1_25) (by decide) (by decide)
      obtain ⟨b2, g2⟩ : ∃ z, z = h0.size := ⟨_, rfl⟩
      rw [← g2] at A2 D2 st2
      have hR3 := hR0.trans (CHr.ext E2 hR0.1)
      have F4 : Fld Z h2 b2 cC3 "value" "[B" (.null) := D2 (Or.inr (WW hw 26)) (ty := (.array .byte)) (by decide)
      have F5 : Fld Z h2 b2 cC3 "coder" "B" (VI 0) := D2 (Or.inr (WW hw 27)) (ty := .byte) (by decide)
      refine own_go st2 ?_
      show own_Fin p e below _ T2 (mkF m 28 #[SI P1_, SI (((P1_.toUInt32 >>> ((24 : Int32) &&& 31).toUInt32).toInt32) &&& (3 : Int32))] [VR b2])
      refine own_go (fun _ k => XS.dup X2.here hx rfl (hb hby d1_28) rfl rfl (XS.iconst X2.here hx rfl (hb hby d1_29) k)) ?_
      show own_Fin p e below _ T2 (mkF m 30 #[SI P1_, SI (((P1_.toUInt32 >>> ((24 : Int32) &&& 31).toUInt32).toInt32) &&& (3 : Int32))] [VI 1, VR b2, VR b2])
      obtain ⟨T6, h6, k6, X6, e6, E6, A6, st6⟩ := newP X2 hx hZ (WW hw 13) e2 (g := (mkF m 30 #[SI P1_, SI (((P1_.toUInt32 >>> ((24 : Int32) &&& 31).toUInt32).toInt32) &&& (3 : Int32))] [VI 1, VR b2, VR b2])) rfl (hb hby d1_30) rfl (by decide) (cap := 1) (by decide) (by decide) (by decide) (by decide)
      obtain ⟨b6, g6⟩ : ∃ z, z = h2.size := ⟨_, rfl⟩
      rw [← g6] at A6 st6
      have hR7 := hR3.trans (CHr.ext E6 hR3.1)
      have V6 : Arv Z h6 b6 k6 .char 1 [VI 0] (VI 0) := (Arv.new A6 (by decide)).pad (pad_rep [] (.int (0 : Int32)) 1)
      refine own_go st6 ?_
      show own_Fin p e below _ T6 (mkF m 32 #[SI P1_, SI (((P1_.toUInt32 >>> ((24 : Int32) &&& 31).toUInt32).toInt32) &&& (3 : Int32))] [VR b6, VR b2, VR b2])
      refine own_go (fun _ k => XS.dup X6.here hx rfl (hb hby d1_32) rfl rfl (XS.iconst X6.here hx rfl (hb hby d1_33) (XS.iloadN X6.here hx rfl (hb hby d1_34) rfl (XS.iconst X6.here hx rfl (hb hby d1_35) k)))) ?_
      show own_Fin p e below _ T6 (mkF m 36 #[SI P1_, SI (((P1_.toUInt32 >>> ((24 : Int32) &&& 31).toUInt32).toInt32) &&& (3 : Int32))] [VI 0, VI P1_, VI 0, VR b6, VR b6, VR b2, VR b2])
      have z9 : h0.size ≤ h2.size := E2.1
      have z10 : h0.size ≤ h6.size := Nat.le_trans z9 E6.1
      obtain ⟨_, T8, L8, X8, hQ8, st8⟩ := own_cS X6 hx hZ hown (WW hw 97) (WW hw 98) (WW hw 5) (WW hw 99) (rm19_m4 l Z a0 hw [] P1_ h6 n0 (Nat.le_trans Z0 z10) ) e6 hml (g := (mkF m 36 #[SI P1_, SI (((P1_.toUInt32 >>> ((24 : Int32) &&& 31).toUInt32).toInt32) &&& (3 : Int32))] [VI 0, VI P1_, VI 0, VR b6, VR b6, VR b2, VR b2])) pd3 (hb hby d1_36) [VI P1_, VI 0] [VI 0, VR b6, VR b6, VR b2, VR b2] (W := 5)
      obtain ⟨rfl, N8q, e8⟩ := hQ8
      have N8 := Fr.app N1 N8q
      refine own_go st8 ?_
      show own_Fin p e below _ T8 (mkF m 39 #[SI P1_, SI (((P1_.toUInt32 >>> ((24 : Int32) &&& 31).toUInt32).toInt32) &&& (3 : Int32))] [VI (own_f19_m4 P1_), VI 0, VR b6, VR b6, VR b2, VR b2])
      obtain ⟨cl11, Ar11, q11, Sz11, Nn11, Hs11, Gg11⟩ := id V6
      have i12 : ¬ ((0 : Int32) < 0 ∨ cl11.slots.size ≤ ((0 : Int32)).toNatClampNeg) := inb_of Sz11 ⟨(by decide : ¬ ((0 : Int32) < (0 : Int32))), (by decide : (0 : Int32) < (1 : Int32))⟩
      obtain ⟨T13, h13, X13, e13, W13, st13⟩ := stC X8 hx hZ e8 Ar11 (j := (0 : Int32)) i12 (g := (mkF m 39 #[SI P1_, SI (((P1_.toUInt32 >>> ((24 : Int32) &&& 31).toUInt32).toInt32) &&& (3 : Int32))] [VI (own_f19_m4 P1_), VI 0, VR b6, VR b6, VR b2, VR b2])) rfl rfl (hb hby d1_39)
      have u14 : n0 ≤ b6 := Nat.le_trans Z0 (Nat.le_trans z9 (Nat.le_of_eq g6.symm))
      have N13 := Fr.snoc X13 N8 u14
      obtain ⟨cl16, Ar16, q16, Sz16, Nn16, Hs16, Gg16⟩ := id V6
      have hR15 := hR7.trans (CHr.wr W13 (Safe.arr (State.Warmed39.alike hZ) Ar16 (by decide)) hR7.1)
      have V13 : Arv Z h13 b6 k6 .char 1 [VI (nar .char (own_f19_m4 P1_))] (VI 0) := Arv.set Ar11 q11 Sz11 Nn11 Hs11 Gg11 (fits_nar_char _) W13 0 rfl (Nat.le_of_ble_eq_true rfl)
      refine own_go st13 ?_
      show own_Fin p e below _ T13 (mkF m 40 #[SI P1_, SI (((P1_.toUInt32 >>> ((24 : Int32) &&& 31).toUInt32).toInt32) &&& (3 : Int32))] [VR b6, VR b2, VR b2])
      have F18 : Exa Z h13 b2 cC3 := ((A2.ext E6).wr W13)
      have v19 : b2 ≠ b6 := Nat.ne_of_lt (Nat.lt_of_lt_of_le A2.lt (Nat.le_of_eq g6.symm))
      have F20 : Fld Z h13 b2 cC3 "value" "[B" (.null) := ((F4.ext E6).other W13 (Or.inl v19))
      have F21 : Fld Z h13 b2 cC3 "coder" "B" (VI 0) := ((F5.ext E6).other W13 (Or.inl v19))
      have O22 : Old Z n0 h13 := (((fm2_.ext E2).ext E6).wr W13 u14)
      have hws : ∀ d ∈ StrChars.Road.words, d.before a0 Z = true := fun d hd => hw d ((by decide +kernel : ∀ d ∈ StrChars.Road.words, d ∈ tables_1) d hd)
      have hp23 : ∀ c ∈ ([(nar .char (own_f19_m4 P1_))] : List Int32), ¬ c < 0 ∧ ¬ (255 : Int32) < c := (own_allS (own_chr_19_m4 P1_) own_all0)
      have u24 : n0 ≤ b2 := Nat.le_trans Z0 (Nat.le_of_eq g2.symm)
      have z25 : h0.size ≤ h13.size := Nat.le_trans z10 (Nat.le_of_eq (Wr.size W13).symm)
      obtain ⟨_, _, ⟨T17, L17, k17, n17⟩, -, X17, ⟨Lc17, hQ17, l17, y17, z17⟩, st17⟩ := X13.specialBack hx (y := yM2) rfl hown (mvT hZ (WW hw 14)) (mvT hZ (WW hw 15)) (mvT hZ (WW hw 16)) (by decide) (StrChars.Road.backV (W := 1) hZ hws (kI := 4) (WW hw 11) (cs := ([(nar .char (own_f19_m4 P1_))] : List Int32)) (bs := ([(nar .char (own_f19_m4 P1_))] : List Int32).map (fun c => c.toInt8.toInt32)) (n := 1) u24 (Nat.le_trans Z0 z25) F18 F20 F21 V13 (fm1_.ext O22.2) fm3_ rfl rfl (by decide) (by decide) hp23 rfl (by decide) (by decide)) (g := (mkF m 40 #[SI P1_, SI (((P1_.toUInt32 >>> ((24 : Int32) &&& 31).toUInt32).toInt32) &&& (3 : Int32))] [VR b6, VR b2, VR b2])) rfl (by rw [hml]; rfl) (Steps.refl _) (a := b2) (argsL := [VR b6]) (rest := [VR b2]) (lenOf pd2 rfl) rfl (by show 2 * 0 + _ ≤ _; exact Nat.le_of_eq rfl) (hb hby d1_40) (fun _ _ => ⟨rfl, e13, (by decide : 2 + 1 ≤ _), (by decide : 5 + 1 ≤ _)⟩)
      dsimp only [Pt.U, Pt.locs, Pt.cells, Pt.slots] at X17 l17 y17 z17 st17 hQ17
      subst l17 y17 z17
      obtain ⟨rfl, N17q, K17, oE17, oC17, t17, kb17, -, lo17, nt17, oV17, oA17⟩ := hQ17
      have sf27 : Safe Z own_EL (s.setVm s.vm).vm h13 b2 := own_safe (State.Warmed39.alike hZ) F18 F20
      have hR26 := hR15.trans (CHr.keep K17 (allS sf27 all0) hR15.1)
      have sf28 : Safe Z own_EL (s.setVm s.vm).vm T17.heap b2 := Safe.keep K17 (allS sf27 all0) hR15.1 sf27
      have N17 := Fr.app N13 N17q
      refine own_go (fun _ k => st17.trans k) ?_
      show own_Fin p e below _ T17 (mkF m 43 #[SI P1_, SI (((P1_.toUInt32 >>> ((24 : Int32) &&& 31).toUInt32).toInt32) &&& (3 : Int32))] [VR b2])
      have K29 : Keep h0 T17.heap [] := (((((Keep.refl h0 []).ext E2).ext E6).wr W13 (Or.inr (Nat.le_trans z9 (Nat.le_of_eq g6.symm)))).trans K17 (allS (Or.inr (Nat.le_of_eq g2.symm)) all0))
      have z30 : h0.size ≤ T17.heap.size := Nat.le_trans z25 K17.1
      obtain ⟨fs, hr, hrun, hended, hend⟩ := Jvm.Stand.leaveW X17 hS0 (Nat.le_trans hk0 z30) (v := some (.ref b2)) (fun h => by rw [hret] at h; cases h)
      refine own_end (retOut X17 hx hret rfl (Or.inr (Or.inr (Or.inr (Or.inr ⟨rfl, rfl, rfl⟩)))) (hb hby d1_43) hr) hrun hended ⟨_, _, rfl, ?_, ?_, hend.1, hend.2.1, hend.2.2.1, hend.2.2.2.mono (by decide) (by decide)⟩
      · show Q1_m3 Z P1_ P2_ h0 n0 _ T17.heap _
        exact ⟨b2, rfl, N17, K29, oE17⟩
      · show CHr Z own_EL s.vm s.heap T17.vm T17.heap
        rw [hh]
        exact hR26.trans (CHv.at X17 hZ hEL hR26.1)
    ·
      by_cases hm2 : (((P1_.toUInt32 >>> ((24 : Int32) &&& 31).toUInt32).toInt32) &&& (3 : Int32)) = (2 : Int32)
      ·
        refine own_go (fun _ k => XS.istoreN X1.here hx rfl (hb hby d1_4) rfl (l' := #[SI P1_, SI (((P1_.toUInt32 >>> ((24 : Int32) &&& 31).toUInt32).toInt32) &&& (3 : Int32))]) rfl (XS.iloadN X1.here hx rfl (hb hby d1_5) rfl (XS.ifYes X1.here hx rfl (pc0 := 6) (pc' := 20) rfl (hb hby d1_6) rfl ((if0 _ _).trans (feq hm0).2) (by decide) (by decide) (XS.iloadN X1.here hx rfl (hb hby d1_20) rfl (XS.iconst X1.here hx rfl (hb hby d1_21) (XS.icmpYes X1.here hx rfl (pc0 := 22) (pc' := 44) rfl (hb hby d1_22) rfl (feq hm1).2 (by decide) (by decide) (XS.iloadN X1.here hx rfl (hb hby d1_44) rfl (XS.iconst X1.here hx rfl (hb hby d1_45) (XS.icmpNo X1.here hx rfl (hb hby d1_46) rfl (teq hm2).2 k))))))))) ?_
        show own_Fin p e below _ T1 (mkF m 49 #[SI P1_, SI (((P1_.toUInt32 >>> ((24 : Int32) &&& 31).toUInt32).toInt32) &&& (3 : Int32))] [])
        obtain ⟨T2, h2, X2, e2, E2, A2, D2, -, st2⟩ := newO X1 hx hZ hown (WW hw 10) (WW hw 11) (WW hw 12) e1 (g := (mkF m 49 #[SI P1_, SI (((P1_.toUInt32 >>> ((24 : Int32) &&& 31).toUInt32).toInt32) &&& (3 : Int32))] [])) rfl (hb hby d1_49) (by decide) (by decide)
        obtain ⟨b2, g2⟩ : ∃ z, z = h0.size := ⟨_, rfl⟩
        rw [← g2] at A2 D2 st2
        have hR3 := hR0.trans (CHr.ext E2 hR0.1)
        have F4 : Fld Z h2 b2 cC3 "value" "[B" (.null) := D2 (Or.inr (WW hw 26)) (ty := (.array .byte)) (by decide)
        have F5 : Fld Z h2 b2 cC3 "coder" "B" (VI 0) := D2 (Or.inr (WW hw 27)) (ty := .byte) (by decide)
        refine own_go st2 ?_
        show own_Fin p e below _ T2 (mkF m 52 #[SI P1_, SI (((P1_.toUInt32 >>> ((24 : Int32) &&& 31).toUInt32).toInt32) &&& (3 : Int32))] [VR b2])
        refine own_go (fun _ k => XS.dup X2.here hx rfl (hb hby d1_52) rfl rfl (XS.iconst X2.here hx rfl (hb hby d1_53) k)) ?_
        show own_Fin p e below _ T2 (mkF m 54 #[SI P1_, SI (((P1_.toUInt32 >>> ((24 : Int32) &&& 31).toUInt32).toInt32) &&& (3 : Int32))] [VI 2, VR b2, VR b2])
        obtain ⟨T6, h6, k6, X6, e6, E6, A6, st6⟩ := newP X2 hx hZ (WW hw 13) e2 (g := (mkF m 54 #[SI P1_, SI (((P1_.toUInt32 >>> ((24 : Int32) &&& 31).toUInt32).toInt32) &&& (3 : Int32))] [VI 2, VR b2, VR b2])) rfl (hb hby d1_54) rfl (by decide) (cap := 2) (by decide) (by decide) (by decide) (by decide)
        obtain ⟨b6, g6⟩ : ∃ z, z = h2.size := ⟨_, rfl⟩
        rw [← g6] at A6 st6
        have hR7 := hR3.trans (CHr.ext E6 hR3.1)
        have V6 : Arv Z h6 b6 k6 .char 2 [VI 0, VI 0] (VI 0) := (Arv.new A6 (by decide)).pad (pad_rep [] (.int (0 : Int32)) 2)
        refine own_go st6 ?_
        show own_Fin p e below _ T6 (mkF m 56 #[SI P1_, SI (((P1_.toUInt32 >>> ((24 : Int32) &&& 31).toUInt32).toInt32) &&& (3 : Int32))] [VR b6, VR b2, VR b2])
        refine own_go (fun _ k => XS.dup X6.here hx rfl (hb hby d1_56) rfl rfl (XS.iconst X6.here hx rfl (hb hby d1_57) (XS.iloadN X6.here hx rfl (hb hby d1_58) rfl (XS.iconst X6.here hx rfl (hb hby d1_59) k)))) ?_
        show own_Fin p e below _ T6 (mkF m 60 #[SI P1_, SI (((P1_.toUInt32 >>> ((24 : Int32) &&& 31).toUInt32).toInt32) &&& (3 : Int32))] [VI 0, VI P1_, VI 0, VR b6, VR b6, VR b2, VR b2])
        have z9 : h0.size ≤ h2.size := E2.1
        have z10 : h0.size ≤ h6.size := Nat.le_trans z9 E6.1
        obtain ⟨_, T8, L8, X8, hQ8, st8⟩ := own_cS X6 hx hZ hown (WW hw 97) (WW hw 98) (WW hw 5) (WW hw 99) (rm19_m4 l Z a0 hw [] P1_ h6 n0 (Nat.le_trans Z0 z10) ) e6 hml (g := (mkF m 60 #[SI P1_, SI (((P1_.toUInt32 >>> ((24 : Int32) &&& 31).toUInt32).toInt32) &&& (3 : Int32))] [VI 0, VI P1_, VI 0, VR b6, VR b6, VR b2, VR b2])) pd3 (hb hby d1_60) [VI P1_, VI 0] [VI 0, VR b6, VR b6, VR b2, VR b2] (W := 5)
        obtain ⟨rfl, N8q, e8⟩ := hQ8
        have N8 := Fr.app N1 N8q
        refine own_go st8 ?_
        show own_Fin p e below _ T8 (mkF m 63 #[SI P1_, SI (((P1_.toUInt32 >>> ((24 : Int32) &&& 31).toUInt32).toInt32) &&& (3 : Int32))] [VI (own_f19_m4 P1_), VI 0, VR b6, VR b6, VR b2, VR b2])
        obtain ⟨cl11, Ar11, q11, Sz11, Nn11, Hs11, Gg11⟩ := id V6
        have i12 : ¬ ((0 : Int32) < 0 ∨ cl11.slots.size ≤ ((0 : Int32)).toNatClampNeg) := inb_of Sz11 ⟨(by decide : ¬ ((0 : Int32) < (0 : Int32))), (by decide : (0 : Int32) < (2 : Int32))⟩
        obtain ⟨T13, h13, X13, e13, W13, st13⟩ := stC X8 hx hZ e8 Ar11 (j := (0 : Int32)) i12 (g := (mkF m 63 #[SI P1_, SI (((P1_.toUInt32 >>> ((24 : Int32) &&& 31).toUInt32).toInt32) &&& (3 : Int32))] [VI (own_f19_m4 P1_), VI 0, VR b6, VR b6, VR b2, VR b2])) rfl rfl (hb hby d1_63)
        have u14 : n0 ≤ b6 := Nat.le_trans Z0 (Nat.le_trans z9 (Nat.le_of_eq g6.symm))
        have N13 := Fr.snoc X13 N8 u14
        obtain ⟨cl16, Ar16, q16, Sz16, Nn16, Hs16, Gg16⟩ := id V6
        have hR15 := hR7.trans (CHr.wr W13 (Safe.arr (State.Warmed39.alike hZ) Ar16 (by decide)) hR7.1)
        have V13 : Arv Z h13 b6 k6 .char 2 [VI (nar .char (own_f19_m4 P1_)), VI 0] (VI 0) := Arv.set Ar11 q11 Sz11 Nn11 Hs11 Gg11 (fits_nar_char _) W13 0 rfl (Nat.le_of_ble_eq_true rfl)
        refine own_go st13 ?_
        show own_Fin p e below _ T13 (mkF m 64 #[SI P1_, SI (((P1_.toUInt32 >>> ((24 : Int32) &&& 31).toUInt32).toInt32) &&& (3 : Int32))] [VR b6, VR b2, VR b2])
        refine own_go (fun _ k => XS.dup X13.here hx rfl (hb hby d1_64) rfl rfl (XS.iconst X13.here hx rfl (hb hby d1_65) (XS.iloadN X13.here hx rfl (hb hby d1_66) rfl (XS.iconst X13.here hx rfl (hb hby d1_67) k)))) ?_
        show own_Fin p e below _ T13 (mkF m 68 #[SI P1_, SI (((P1_.toUInt32 >>> ((24 : Int32) &&& 31).toUInt32).toInt32) &&& (3 : Int32))] [VI 1, VI P1_, VI 1, VR b6, VR b6, VR b2, VR b2])
        have z18 : h0.size ≤ h13.size := Nat.le_trans z10 (Nat.le_of_eq (Wr.size W13).symm)
        obtain ⟨_, T17, L17, X17, hQ17, st17⟩ := own_cS X13 hx hZ hown (WW hw 97) (WW hw 98) (WW hw 5) (WW hw 99) (rm19_m5 l Z a0 hw [] P1_ h13 n0 (Nat.le_trans Z0 z18) ) e13 hml (g := (mkF m 68 #[SI P1_, SI (((P1_.toUInt32 >>> ((24 : Int32) &&& 31).toUInt32).toInt32) &&& (3 : Int32))] [VI 1, VI P1_, VI 1, VR b6, VR b6, VR b2, VR b2])) pd3 (hb hby d1_68) [VI P1_, VI 1] [VI 1, VR b6, VR b6, VR b2, VR b2] (W := 5)
        obtain ⟨rfl, N17q, e17⟩ := hQ17
        have N17 := Fr.app N13 N17q
        refine own_go st17 ?_
        show own_Fin p e below _ T17 (mkF m 71 #[SI P1_, SI (((P1_.toUInt32 >>> ((24 : Int32) &&& 31).toUInt32).toInt32) &&& (3 : Int32))] [VI (own_f19_m5 P1_), VI 1, VR b6, VR b6, VR b2, VR b2])
        obtain ⟨cl19, Ar19, q19, Sz19, Nn19, Hs19, Gg19⟩ := id V13
        have i20 : ¬ ((1 : Int32) < 0 ∨ cl19.slots.size ≤ ((1 : Int32)).toNatClampNeg) := inb_of Sz19 ⟨(by decide : ¬ ((1 : Int32) < (0 : Int32))), (by decide : (1 : Int32) < (2 : Int32))⟩
        obtain ⟨T21, h21, X21, e21, W21, st21⟩ := stC X17 hx hZ e17 Ar19 (j := (1 : Int32)) i20 (g := (mkF m 71 #[SI P1_, SI (((P1_.toUInt32 >>> ((24 : Int32) &&& 31).toUInt32).toInt32) &&& (3 : Int32))] [VI (own_f19_m5 P1_), VI 1, VR b6, VR b6, VR b2, VR b2])) rfl rfl (hb hby d1_71)
        have N21 := Fr.snoc X21 N17 u14
        obtain ⟨cl23, Ar23, q23, Sz23, Nn23, Hs23, Gg23⟩ := id V13
        have hR22 := hR15.trans (CHr.wr W21 (Safe.arr (State.Warmed39.alike hZ) Ar23 (by decide)) hR15.1)
        have V21 : Arv Z h21 b6 k6 .char 2 [VI (nar .char (own_f19_m4 P1_)), VI (nar .char (own_f19_m5 P1_))] (VI 0) := Arv.set Ar19 q19 Sz19 Nn19 Hs19 Gg19 (fits_nar_char _) W21 1 rfl (Nat.le_of_ble_eq_true rfl)
        refine own_go st21 ?_
        show own_Fin p e below _ T21 (mkF m 72 #[SI P1_, SI (((P1_.toUInt32 >>> ((24 : Int32) &&& 31).toUInt32).toInt32) &&& (3 : Int32))] [VR b6, VR b2, VR b2])
        have F25 : Exa Z h21 b2 cC3 := (((A2.ext E6).wr W13).wr W21)
        have v26 : b2 ≠ b6 := Nat.ne_of_lt (Nat.lt_of_lt_of_le A2.lt (Nat.le_of_eq g6.symm))
        have F27 : Fld Z h21 b2 cC3 "value" "[B" (.null) := (((F4.ext E6).other W13 (Or.inl v26)).other W21 (Or.inl v26))
        have F28 : Fld Z h21 b2 cC3 "coder" "B" (VI 0) := (((F5.ext E6).other W13 (Or.inl v26)).other W21 (Or.inl v26))
        have O29 : Old Z n0 h21 := ((((fm2_.ext E2).ext E6).wr W13 u14).wr W21 u14)
        have hws : ∀ d ∈ StrChars.Road.words, d.before a0 Z = true := fun d hd => hw d ((by decide +kernel : ∀ d ∈ StrChars.Road.words, d ∈ tables_1) d hd)
        have hp30 : ∀ c ∈ ([(nar .char (own_f19_m4 P1_)), (nar .char (own_f19_m5 P1_))] : List Int32), ¬ c < 0 ∧ ¬ (255 : Int32) < c := (own_allS (own_chr_19_m4 P1_) (own_allS (own_chr_19_m5 P1_) own_all0))
        have u31 : n0 ≤ b2 := Nat.le_trans Z0 (Nat.le_of_eq g2.symm)
        have z32 : h0.size ≤ h21.size := Nat.le_trans z18 (Nat.le_of_eq (Wr.size W21).symm)
        obtain ⟨_, _, ⟨T24, L24, k24, n24⟩, -, X24, ⟨Lc24, hQ24, l24, y24, z24⟩, st24⟩ := X21.specialBack hx (y := yM2) rfl hown (mvT hZ (WW hw 14)) (mvT hZ (WW hw 15)) (mvT hZ (WW hw 16)) (by decide) (StrChars.Road.backV (W := 1) hZ hws (kI := 4) (WW hw 11) (cs := ([(nar .char (own_f19_m4 P1_)), (nar .char (own_f19_m5 P1_))] : List Int32)) (bs := ([(nar .char (own_f19_m4 P1_)), (nar .char (own_f19_m5 P1_))] : List Int32).map (fun c => c.toInt8.toInt32)) (n := 2) u31 (Nat.le_trans Z0 z32) F25 F27 F28 V21 (fm1_.ext O29.2) fm3_ rfl rfl (by decide) (by decide) hp30 rfl (by decide) (by decide)) (g := (mkF m 72 #[SI P1_, SI (((P1_.toUInt32 >>> ((24 : Int32) &&& 31).toUInt32).toInt32) &&& (3 : Int32))] [VR b6, VR b2, VR b2])) rfl (by rw [hml]; rfl) (Steps.refl _) (a := b2) (argsL := [VR b6]) (rest := [VR b2]) (lenOf pd2 rfl) rfl (by show 2 * 0 + _ ≤ _; exact Nat.le_of_eq rfl) (hb hby d1_72) (fun _ _ => ⟨rfl, e21, (by decide : 2 + 1 ≤ _), (by decide : 6 + 2 ≤ _)⟩)
        dsimp only [Pt.U, Pt.locs, Pt.cells, Pt.slots] at X24 l24 y24 z24 st24 hQ24
        subst l24 y24 z24
        obtain ⟨rfl, N24q, K24, oE24, oC24, t24, kb24, -, lo24, nt24, oV24, oA24⟩ := hQ24
        have sf34 : Safe Z own_EL (s.setVm s.vm).vm h21 b2 := own_safe (State.Warmed39.alike hZ) F25 F27
        have hR33 := hR22.trans (CHr.keep K24 (allS sf34 all0) hR22.1)
        have sf35 : Safe Z own_EL (s.setVm s.vm).vm T24.heap b2 := Safe.keep K24 (allS sf34 all0) hR22.1 sf34
        have N24 := Fr.app N21 N24q
        refine own_go (fun _ k => st24.trans k) ?_
        show own_Fin p e below _ T24 (mkF m 75 #[SI P1_, SI (((P1_.toUInt32 >>> ((24 : Int32) &&& 31).toUInt32).toInt32) &&& (3 : Int32))] [VR b2])
        have K36 : Keep h0 T24.heap [] := ((((((Keep.refl h0 []).ext E2).ext E6).wr W13 (Or.inr (Nat.le_trans z9 (Nat.le_of_eq g6.symm)))).wr W21 (Or.inr (Nat.le_trans z9 (Nat.le_of_eq g6.symm)))).trans K24 (allS (Or.inr (Nat.le_of_eq g2.symm)) all0))
        have z37 : h0.size ≤ T24.heap.size := Nat.le_trans z32 K24.1
        obtain ⟨fs, hr, hrun, hended, hend⟩ := Jvm.Stand.leaveW X24 hS0 (Nat.le_trans hk0 z37) (v := some (.ref b2)) (fun h => by rw [hret] at h; cases h)
        refine own_end (retOut X24 hx hret rfl (Or.inr (Or.inr (Or.inr (Or.inr ⟨rfl, rfl, rfl⟩)))) (hb hby d1_75) hr) hrun hended ⟨_, _, rfl, ?_, ?_, hend.1, hend.2.1, hend.2.2.1, hend.2.2.2.mono (by decide) (by decide)⟩
        · show Q1_m3 Z P1_ P2_ h0 n0 _ T24.heap _
          exact ⟨b2, rfl, N24, K36, oE24⟩
        · show CHr Z own_EL s.vm s.heap T24.vm T24.heap
          rw [hh]
          exact hR33.trans (CHv.at X24 hZ hEL hR33.1)
      ·
        refine own_go (fun _ k => XS.istoreN X1.here hx rfl (hb hby d1_4) rfl (l' := #[SI P1_, SI (((P1_.toUInt32 >>> ((24 : Int32) &&& 31).toUInt32).toInt32) &&& (3 : Int32))]) rfl (XS.iloadN X1.here hx rfl (hb hby d1_5) rfl (XS.ifYes X1.here hx rfl (pc0 := 6) (pc' := 20) rfl (hb hby d1_6) rfl ((if0 _ _).trans (feq hm0).2) (by decide) (by decide) (XS.iloadN X1.here hx rfl (hb hby d1_20) rfl (XS.iconst X1.here hx rfl (hb hby d1_21) (XS.icmpYes X1.here hx rfl (pc0 := 22) (pc' := 44) rfl (hb hby d1_22) rfl (feq hm1).2 (by decide) (by decide) (XS.iloadN X1.here hx rfl (hb hby d1_44) rfl (XS.iconst X1.here hx rfl (hb hby d1_45) (XS.icmpYes X1.here hx rfl (pc0 := 46) (pc' := 76) rfl (hb hby d1_46) rfl (feq hm2).2 (by decide) (by decide) k))))))))) ?_
        show own_Fin p e below _ T1 (mkF m 76 #[SI P1_, SI (((P1_.toUInt32 >>> ((24 : Int32) &&& 31).toUInt32).toInt32) &&& (3 : Int32))] [])
        obtain ⟨T2, h2, X2, e2, E2, A2, D2, -, st2⟩ := newO X1 hx hZ hown (WW hw 10) (WW hw 11) (WW hw 12) e1 (g := (mkF m 76 #[SI P1_, SI (((P1_.toUInt32 >>> ((24 : Int32) &&& 31).toUInt32).toInt32) &&& (3 : Int32))] [])) rfl (hb hby d1_76) (by decide) (by decide)
        obtain ⟨b2, g2⟩ : ∃ z, z = h0.size := ⟨_, rfl⟩
        rw [← g2] at A2 D2 st2
        have hR3 := hR0.trans (CHr.ext E2 hR0.1)
        have F4 : Fld Z h2 b2 cC3 "value" "[B" (.null) := D2 (Or.inr (WW hw 26)) (ty := (.array .byte)) (by decide)
        have F5 : Fld Z h2 b2 cC3 "coder" "B" (VI 0) := D2 (Or.inr (WW hw 27)) (ty := .byte) (by decide)
        refine own_go st2 ?_
        show own_Fin p e below _ T2 (mkF m 79 #[SI P1_, SI (((P1_.toUInt32 >>> ((24 : Int32) &&& 31).toUInt32).toInt32) &&& (3 : Int32))] [VR b2])
        refine own_go (fun _ k => XS.dup X2.here hx rfl (hb hby d1_79) rfl rfl (XS.iconst X2.here hx rfl (hb hby d1_80) k)) ?_
        show own_Fin p e below _ T2 (mkF m 81 #[SI P1_, SI (((P1_.toUInt32 >>> ((24 : Int32) &&& 31).toUInt32).toInt32) &&& (3 : Int32))] [VI 3, VR b2, VR b2])
        obtain ⟨T6, h6, k6, X6, e6, E6, A6, st6⟩ := newP X2 hx hZ (WW hw 13) e2 (g := (mkF m 81 #[SI P1_, SI (((P1_.toUInt32 >>> ((24 : Int32) &&& 31).toUInt32).toInt32) &&& (3 : Int32))] [VI 3, VR b2, VR b2])) rfl (hb hby d1_81) rfl (by decide) (cap := 3) (by decide) (by decide) (by decide) (by decide)
        obtain ⟨b6, g6⟩ : ∃ z, z = h2.size := ⟨_, rfl⟩
        rw [← g6] at A6 st6
        have hR7 := hR3.trans (CHr.ext E6 hR3.1)
        have V6 : Arv Z h6 b6 k6 .char 3 [VI 0, VI 0, VI 0] (VI 0) := (Arv.new A6 (by decide)).pad (pad_rep [] (.int (0 : Int32)) 3)
        refine own_go st6 ?_
        show own_Fin p e below _ T6 (mkF m 83 #[SI P1_, SI (((P1_.toUInt32 >>> ((24 : Int32) &&& 31).toUInt32).toInt32) &&& (3 : Int32))] [VR b6, VR b2, VR b2])
        refine own_go (fun _ k => XS.dup X6.here hx rfl (hb hby d1_83) rfl rfl (XS.iconst X6.here hx rfl (hb hby d1_84) (XS.iloadN X6.here hx rfl (hb hby d1_85) rfl (XS.iconst X6.here hx rfl (hb hby d1_86) k)))) ?_
        show own_Fin p e below _ T6 (mkF m 87 #[SI P1_, SI (((P1_.toUInt32 >>> ((24 : Int32) &&& 31).toUInt32).toInt32) &&& (3 : Int32))] [VI 0, VI P1_, VI 0, VR b6, VR b6, VR b2, VR b2])
        have z9 : h0.size ≤ h2.size := E2.1
        have z10 : h0.size ≤ h6.size := Nat.le_trans z9 E6.1
        obtain ⟨_, T8, L8, X8, hQ8, st8⟩ := own_cS X6 hx hZ hown (WW hw 97) (WW hw 98) (WW hw 5) (WW hw 99) (rm19_m4 l Z a0 hw [] P1_ h6 n0 (Nat.le_trans Z0 z10) ) e6 hml (g := (mkF m 87 #[SI P1_, SI (((P1_.toUInt32 >>> ((24 : Int32) &&& 31).toUInt32).toInt32) &&& (3 : Int32))] [VI 0, VI P1_, VI 0, VR b6, VR b6, VR b2, VR b2])) pd3 (hb hby d1_87) [VI P1_, VI 0] [VI 0, VR b6, VR b6, VR b2, VR b2] (W := 5)
        obtain ⟨rfl, N8q, e8⟩ := hQ8
        have N8 := Fr.app N1 N8q
        refine own_go st8 ?_
        show own_Fin p e below _ T8 (mkF m 90 #[SI P1_, SI (((P1_.toUInt32 >>> ((24 : Int32) &&& 31).toUInt32).toInt32) &&& (3 : Int32))] [VI (own_f19_m4 P1_), VI 0, VR b6, VR b6, VR b2, VR b2])
        obtain ⟨cl11, Ar11, q11, Sz11, Nn11, Hs11, Gg11⟩ := id V6
        have i12 : ¬ ((0 : Int32) < 0 ∨ cl11.slots.size ≤ ((0 : Int32)).toNatClampNeg) := inb_of Sz11 ⟨(by decide : ¬ ((0 : Int32) < (0 : Int32))), (by decide : (0 : Int32) < (3 : Int32))⟩
        obtain ⟨T13, h13, X13, e13, W13, st13⟩ := stC X8 hx hZ e8 Ar11 (j := (0 : Int32)) i12 (g := (mkF m 90 #[SI P1_, SI (((P1_.toUInt32 >>> ((24 : Int32) &&& 31).toUInt32).toInt32) &&& (3 : Int32))] [VI (own_f19_m4 P1_), VI 0, VR b6, VR b6, VR b2, VR b2])) rfl rfl (hb hby d1_90)
        have u14 : n0 ≤ b6 := Nat.le_trans Z0 (Nat.le_trans z9 (Nat.le_of_eq g6.symm))
        have N13 := Fr.snoc X13 N8 u14
        obtain ⟨cl16, Ar16, q16, Sz16, Nn16, Hs16, Gg16⟩ := id V6
        have hR15 := hR7.trans (CHr.wr W13 (Safe.arr (State.Warmed39.alike hZ) Ar16 (by decide)) hR7.1)
        have V13 : Arv Z h13 b6 k6 .char 3 [VI (nar .char (own_f19_m4 P1_)), VI 0, VI 0] (VI 0) := Arv.set Ar11 q11 Sz11 Nn11 Hs11 Gg11 (fits_nar_char _) W13 0 rfl (Nat.le_of_ble_eq_true rfl)
        refine own_go st13 ?_
        show own_Fin p e below _ T13 (mkF m 91 #[SI P1_, SI (((P1_.toUInt32 >>> ((24 : Int32) &&& 31).toUInt32).toInt32) &&& (3 : Int32))] [VR b6, VR b2, VR b2])
        refine own_go (fun _ k => XS.dup X13.here hx rfl (hb hby d1_91) rfl rfl (XS.iconst X13.here hx rfl (hb hby d1_92) (XS.iloadN X13.here hx rfl (hb hby d1_93) rfl (XS.iconst X13.here hx rfl (hb hby d1_94) k)))) ?_
        show own_Fin p e below _ T13 (mkF m 95 #[SI P1_, SI (((P1_.toUInt32 >>> ((24 : Int32) &&& 31).toUInt32).toInt32) &&& (3 : Int32))] [VI 1, VI P1_, VI 1, VR b6, VR b6, VR b2, VR b2])
        have z18 : h0.size ≤ h13.size := Nat.le_trans z10 (Nat.le_of_eq (Wr.size W13).symm)
        obtain ⟨_, T17, L17, X17, hQ17, st17⟩ := own_cS X13 hx hZ hown (WW hw 97) (WW hw 98) (WW hw 5) (WW hw 99) (rm19_m5 l Z a0 hw [] P1_ h13 n0 (Nat.le_trans Z0 z18) ) e13 hml (g := (mkF m 95 #[SI P1_, SI (((P1_.toUInt32 >>> ((24 : Int32) &&& 31).toUInt32).toInt32) &&& (3 : Int32))] [VI 1, VI P1_, VI 1, VR b6, VR b6, VR b2, VR b2])) pd3 (hb hby d1_95) [VI P1_, VI 1] [VI 1, VR b6, VR b6, VR b2, VR b2] (W := 5)
        obtain ⟨rfl, N17q, e17⟩ := hQ17
        have N17 := Fr.app N13 N17q
        refine own_go st17 ?_
        show own_Fin p e below _ T17 (mkF m 98 #[SI P1_, SI (((P1_.toUInt32 >>> ((24 : Int32) &&& 31).toUInt32).toInt32) &&& (3 : Int32))] [VI (own_f19_m5 P1_), VI 1, VR b6, VR b6, VR b2, VR b2])
        obtain ⟨cl19, Ar19, q19, Sz19, Nn19, Hs19, Gg19⟩ := id V13
        have i20 : ¬ ((1 : Int32) < 0 ∨ cl19.slots.size ≤ ((1 : Int32)).toNatClampNeg) := inb_of Sz19 ⟨(by decide : ¬ ((1 : Int32) < (0 : Int32))), (by decide : (1 : Int32) < (3 : Int32))⟩
        obtain ⟨T21, h21, X21, e21, W21, st21⟩ := stC X17 hx hZ e17 Ar19 (j := (1 : Int32)) i20 (g := (mkF m 98 #[SI P1_, SI (((P1_.toUInt32 >>> ((24 : Int32) &&& 31).toUInt32).toInt32) &&& (3 : Int32))] [VI (own_f19_m5 P1_), VI 1, VR b6, VR b6, VR b2, VR b2])) rfl rfl (hb hby d1_98)
        have N21 := Fr.snoc X21 N17 u14
        obtain ⟨cl23, Ar23, q23, Sz23, Nn23, Hs23, Gg23⟩ := id V13
        have hR22 := hR15.trans (CHr.wr W21 (Safe.arr (State.Warmed39.alike hZ) Ar23 (by decide)) hR15.1)
        have V21 : Arv Z h21 b6 k6 .char 3 [VI (nar .char (own_f19_m4 P1_)), VI (nar .char (own_f19_m5 P1_)), VI 0] (VI 0) := Arv.set Ar19 q19 Sz19 Nn19 Hs19 Gg19 (fits_nar_char _) W21 1 rfl (Nat.le_of_ble_eq_true rfl)
        refine own_go st21 ?_
        show own_Fin p e below _ T21 (mkF m 99 #[SI P1_, SI (((P1_.toUInt32 >>> ((24 : Int32) &&& 31).toUInt32).toInt32) &&& (3 : Int32))] [VR b6, VR b2, VR b2])
        refine own_go (fun _ k => XS.dup X21.here hx rfl (hb hby d1_99) rfl rfl (XS.iconst X21.here hx rfl (hb hby d1_100) (XS.iloadN X21.here hx rfl (hb hby d1_101) rfl (XS.iconst X21.here hx rfl (hb hby d1_102) k)))) ?_
        show own_Fin p e below _ T21 (mkF m 103 #[SI P1_, SI (((P1_.toUInt32 >>> ((24 : Int32) &&& 31).toUInt32).toInt32) &&& (3 : Int32))] [VI 2, VI P1_, VI 2, VR b6, VR b6, VR b2, VR b2])
        have z25 : h0.size ≤ h21.size := Nat.le_trans z18 (Nat.le_of_eq (Wr.size W21).symm)
        obtain ⟨_, T24, L24, X24, hQ24, st24⟩ := own_cS X21 hx hZ hown (WW hw 97) (WW hw 98) (WW hw 5) (WW hw 99) (rm19_m6 l Z a0 hw [] P1_ h21 n0 (Nat.le_trans Z0 z25) ) e21 hml (g := (mkF m 103 #[SI P1_, SI (((P1_.toUInt32 >>> ((24 : Int32) &&& 31).toUInt32).toInt32) &&& (3 : Int32))] [VI 2, VI P1_, VI 2, VR b6, VR b6, VR b2, VR b2])) pd3 (hb hby d1_103) [VI P1_, VI 2] [VI 2, VR b6, VR b6, VR b2, VR b2] (W := 5)
        obtain ⟨rfl, N24q, e24⟩ := hQ24
        have N24 := Fr.app N21 N24q
        refine own_go st24 ?_
        show own_Fin p e below _ T24 (mkF m 106 #[SI P1_, SI (((P1_.toUInt32 >>> ((24 : Int32) &&& 31).toUInt32).toInt32) &&& (3 : Int32))] [VI (own_f19_m6 P1_), VI 2, VR b6, VR b6, VR b2, VR b2])
        obtain ⟨cl26, Ar26, q26, Sz26, Nn26, Hs26, Gg26⟩ := id V21
        have i27 : ¬ ((2 : Int32) < 0 ∨ cl26.slots.size ≤ ((2 : Int32)).toNatClampNeg) := inb_of Sz26 ⟨(by decide : ¬ ((2 : Int32) < (0 : Int32))), (by decide : (2 : Int32) < (3 : Int32))⟩
        obtain ⟨T28, h28, X28, e28, W28, st28⟩ := stC X24 hx hZ e24 Ar26 (j := (2 : Int32)) i27 (g := (mkF m 106 #[SI P1_, SI (((P1_.toUInt32 >>> ((24 : Int32) &&& 31).toUInt32).toInt32) &&& (3 : Int32))] [VI (own_f19_m6 P1_), VI 2, VR b6, VR b6, VR b2, VR b2])) rfl rfl (hb hby d1_106)
        have N28 := Fr.snoc X28 N24 u14
        obtain ⟨cl30, Ar30, q30, Sz30, Nn30, Hs30, Gg30⟩ := id V21
        have hR29 := hR22.trans (CHr.wr W28 (Safe.arr (State.Warmed39.alike hZ) Ar30 (by decide)) hR22.1)
        have V28 : Arv Z h28 b6 k6 .char 3 [VI (nar .char (own_f19_m4 P1_)), VI (nar .char (own_f19_m5 P1_)), VI (nar .char (own_f19_m6 P1_))] (VI 0) := Arv.set Ar26 q26 Sz26 Nn26 Hs26 Gg26 (fits_nar_char _) W28 2 rfl (Nat.le_of_ble_eq_true rfl)
        refine own_go st28 ?_
        show own_Fin p e below _ T28 (mkF m 107 #[SI P1_, SI (((P1_.toUInt32 >>> ((24 : Int32) &&& 31).toUInt32).toInt32) &&& (3 : Int32))] [VR b6, VR b2, VR b2])
        have F32 : Exa Z h28 b2 cC3 := ((((A2.ext E6).wr W13).wr W21).wr W28)
        have v33 : b2 ≠ b6 := Nat.ne_of_lt (Nat.lt_of_lt_of_le A2.lt (Nat.le_of_eq g6.symm))
        have F34 : Fld Z h28 b2 cC3 "value" "[B" (.null) := ((((F4.ext E6).other W13 (Or.inl v33)).other W21 (Or.inl v33)).other W28 (Or.inl v33))
        have F35 : Fld Z h28 b2 cC3 "coder" "B" (VI 0) := ((((F5.ext E6).other W13 (Or.inl v33)).other W21 (Or.inl v33)).other W28 (Or.inl v33))
        have O36 : Old Z n0 h28 := (((((fm2_.ext E2).ext E6).wr W13 u14).wr W21 u14).wr W28 u14)
        have hws : ∀ d ∈ StrChars.Road.words, d.before a0 Z = true := fun d hd => hw d ((by decide +kernel : ∀ d ∈ StrChars.Road.words, d ∈ tables_1) d hd)
        have hp37 : ∀ c ∈ ([(nar .char (own_f19_m4 P1_)), (nar .char (own_f19_m5 P1_)), (nar .char (own_f19_m6 P1_))] : List Int32), ¬ c < 0 ∧ ¬ (255 : Int32) < c := (own_allS (own_chr_19_m4 P1_) (own_allS (own_chr_19_m5 P1_) (own_allS (own_chr_19_m6 P1_) own_all0)))
        have u38 : n0 ≤ b2 := Nat.le_trans Z0 (Nat.le_of_eq g2.symm)
        have z39 : h0.size ≤ h28.size := Nat.le_trans z25 (Nat.le_of_eq (Wr.size W28).symm)
        obtain ⟨_, _, ⟨T31, L31, k31, n31⟩, -, X31, ⟨Lc31, hQ31, l31, y31, z31⟩, st31⟩ := X28.specialBack hx (y := yM2) rfl hown (mvT hZ (WW hw 14)) (mvT hZ (WW hw 15)) (mvT hZ (WW hw 16)) (by decide) (StrChars.Road.backV (W := 1) hZ hws (kI := 4) (WW hw 11) (cs := ([(nar .char (own_f19_m4 P1_)), (nar .char (own_f19_m5 P1_)), (nar .char (own_f19_m6 P1_))] : List Int32)) (bs := ([(nar .char (own_f19_m4 P1_)), (nar .char (own_f19_m5 P1_)), (nar .char (own_f19_m6 P1_))] : List Int32).map (fun c => c.toInt8.toInt32)) (n := 3) u38 (Nat.le_trans Z0 z39) F32 F34 F35 V28 (fm1_.ext O36.2) fm3_ rfl rfl (by decide) (by decide) hp37 rfl (by decide) (by decide)) (g := (mkF m 107 #[SI P1_, SI (((P1_.toUInt32 >>> ((24 : Int32) &&& 31).toUInt32).toInt32) &&& (3 : Int32))] [VR b6, VR b2, VR b2])) rfl (by rw [hml]; rfl) (Steps.refl _) (a := b2) (argsL := [VR b6]) (rest := [VR b2]) (lenOf pd2 rfl) rfl (by show 2 * 0 + _ ≤ _; exact Nat.le_of_eq rfl) (hb hby d1_107) (fun _ _ => ⟨rfl, e28, (by decide : 2 + 1 ≤ _), (by decide : 7 + 3 ≤ _)⟩)
        dsimp only [Pt.U, Pt.locs, Pt.cells, Pt.slots] at X31 l31 y31 z31 st31 hQ31
        subst l31 y31 z31
        obtain ⟨rfl, N31q, K31, oE31, oC31, t31, kb31, -, lo31, nt31, oV31, oA31⟩ := hQ31
        have sf41 : Safe Z own_EL (s.setVm s.vm).vm h28 b2 := own_safe (State.Warmed39.alike hZ) F32 F34
        have hR40 := hR29.trans (CHr.keep K31 (allS sf41 all0) hR29.1)
        have sf42 : Safe Z own_EL (s.setVm s.vm).vm T31.heap b2 := Safe.keep K31 (allS sf41 all0) hR29.1 sf41
        have N31 := Fr.app N28 N31q
        refine own_go (fun _ k => st31.trans k) ?_
        show own_Fin p e below _ T31 (mkF m 110 #[SI P1_, SI (((P1_.toUInt32 >>> ((24 : Int32) &&& 31).toUInt32).toInt32) &&& (3 : Int32))] [VR b2])
        have K43 : Keep h0 T31.heap [] := (((((((Keep.refl h0 []).ext E2).ext E6).wr W13 (Or.inr (Nat.le_trans z9 (Nat.le_of_eq g6.symm)))).wr W21 (Or.inr (Nat.le_trans z9 (Nat.le_of_eq g6.symm)))).wr W28 (Or.inr (Nat.le_trans z9 (Nat.le_of_eq g6.symm)))).trans K31 (allS (Or.inr (Nat.le_of_eq g2.symm)) all0))
        have z44 : h0.size ≤ T31.heap.size := Nat.le_trans z39 K31.1
        obtain ⟨fs, hr, hrun, hended, hend⟩ := Jvm.Stand.leaveW X31 hS0 (Nat.le_trans hk0 z44) (v := some (.ref b2)) (fun h => by rw [hret] at h; cases h)
        refine own_end (retOut X31 hx hret rfl (Or.inr (Or.inr (Or.inr (Or.inr ⟨rfl, rfl, rfl⟩)))) (hb hby d1_110) hr) hrun hended ⟨_, _, rfl, ?_, ?_, hend.1, hend.2.1, hend.2.2.1, hend.2.2.2.mono (by decide) (by decide)⟩
        · show Q1_m3 Z P1_ P2_ h0 n0 _ T31.heap _
          exact ⟨b2, rfl, N31, K43, oE31⟩
        · show CHr Z own_EL s.vm s.heap T31.vm T31.heap
          rw [hh]
          exact hR40.trans (CHv.at X31 hZ hEL hR40.1)
theorem ef1_2 (m : MethodId) (p1 : Int32) : entryFrame m #[(.int p1)] 2 = mkF m 0 #[SI p1, SU] [] := by first | (simp [entryFrame, mkF, argsToLocals, Value.category]; done) | rfl
def Q1_2 (Z : State) (p1 : Int32) (h0 : Heap) (n0 : Nat) (v : Option Value) (h : Heap) (L : List Loc) : Prop := ∃ (b4 : Addr) (b10_9_13 : Addr) (kb10_9_13 : ClassId), v = some (.ref b4) ∧ Fr n0 L ∧ Keep h0 h [] ∧ h0.size ≤ b4 ∧ Exa Z h b4 cC3 ∧ Fld Z h b4 cC3 "value" "[B" (VR b10_9_13) ∧ Fld Z h b4 cC3 "coder" "B" (VI 0) ∧ Arv Z h b10_9_13 kb10_9_13 .byte 0 [] (VI 0)
set_option maxRecDepth 65536 in
set_option maxHeartbeats 40000000 in
theorem rm1_2 (l : Launch) (Z : State) (a0 : Array Value) (hw : HW a0 Z) (ws : List Jvm.Cond) (p1 : Int32) (h0 : Heap) (n0 : Nat) (Z0 : n0 ≤ h0.size) (f3 : (((p1.toUInt32 >>> ((24 : Int32) &&& 31).toUInt32).toInt32) &&& (3 : Int32)) = (0 : Int32)) :
    MetFree l yM4 (head1 (Jvm.Cond.code yM4 method_5_code 2 (some (.object "java/lang/String")) :: ws) ({ frames := 3, cells := 6, slots := 12, locals := 43 } : Room)) (fun a U => a = #[(.int p1)] ∧ Z.Warmed39 U.vm ∧ U.heap = h0 ∧ CHv Z own_EL U.vm h0) (fun _ _ _ _ _ => True) (fun _ U o U' => ∃ v L, o = .returned v ∧ Q1_2 Z p1 h0 n0 v U'.heap L ∧ CHr Z own_EL U.vm U.heap U'.vm U'.heap ∧ ReturnedEndW U o U' L ({ frames := 3, cells := 6, slots := 12, locals := 43 } : Room).cells ({ frames := 3, cells := 6, slots := 12, locals := 43 } : Room).slots) := by
  refine own_enterH (n0 := n0) (plainFor_of_name pn0) (fun m => ef1_2 m p1) ?_
  intro p e s m below meth c s₁ hx hby hml hown hnm hret hlk XY0 e0 hZ hh N0 hC0
  have X0 : Stand p l e ({ frames := 3, cells := 6, slots := 12, locals := 43 } : Room) (s.setVm s.vm) m _ below meth c s₁ [] 0 0 := XY0
  have hS0 : s.Since s.vm h0.size := (State.WarmedH.refl s).since _
  have hk0 : h0.size ≤ h0.size := Nat.le_refl _
  have hEL : EW Z a0 own_EL := (EW.cons (WW hw 24) (by decide) EW.nil)
  have hR0 : CHr Z own_EL s.vm h0 s.vm h0 := CHr.refl hC0
  show own_Fin p e below _ s₁ (mkF m 0 #[SI p1, SU] [])
  refine own_go (fun _ k => XS.iloadN X0.here hx rfl (hb hby d1_0) rfl k) ?_
  show own_Fin p e below _ s₁ (mkF m 1 #[SI p1, SU] [VI p1])
  obtain ⟨_, T2, L2, X2, hQ2, st2⟩ := own_cS X0 hx hZ hown (WW hw 7) (WW hw 8) (WW hw 5) (WW hw 9) (rm2_1 l Z a0 hw [] p1 h0 n0 Z0 ) e0 hml (g := (mkF m 1 #[SI p1, SU] [VI p1])) pd0 (hb hby d1_1) [VI p1] [] (W := 0)
  obtain ⟨rfl, N2q, e2⟩ := hQ2
  have N2 := Fr.app N0 N2q
  refine own_go st2 ?_
  show own_Fin p e below _ T2 (mkF m 4 #[SI p1, SU] [VI (((p1.toUInt32 >>> ((24 : Int32) &&& 31).toUInt32).toInt32) &&& (3 : Int32))])
  refine own_go (fun _ k => XS.istoreN X2.here hx rfl (hb hby d1_4) rfl (l' := #[SI p1, SI (((p1.toUInt32 >>> ((24 : Int32) &&& 31).toUInt32).toInt32) &&& (3 : Int32))]) rfl (XS.iloadN X2.here hx rfl (hb hby d1_5) rfl (XS.ifNo X2.here hx rfl (hb hby d1_6) rfl ((if0 _ _).trans (teq f3).2) k))) ?_
  show own_Fin p e below _ T2 (mkF m 9 #[SI p1, SI (((p1.toUInt32 >>> ((24 : Int32) &&& 31).toUInt32).toInt32) &&& (3 : Int32))] [])
  obtain ⟨T4, h4, X4, e4, E4, A4, D4, -, st4⟩ := newO X2 hx hZ hown (WW hw 10) (WW hw 11) (WW hw 12) e2 (g := (mkF m 9 #[SI p1, SI (((p1.toUInt32 >>> ((24 : Int32) &&& 31).toUInt32).toInt32) &&& (3 : Int32))] [])) rfl (hb hby d1_9) (by decide) (by decide)
  obtain ⟨b4, g4⟩ : ∃ z, z = h0.size := ⟨_, rfl⟩
  rw [← g4] at A4 D4 st4
  have hR5 := hR0.trans (CHr.ext E4 hR0.1)
  have F6 : Fld Z h4 b4 cC3 "value" "[B" (.null) := D4 (Or.inr (WW hw 26)) (ty := (.array .byte)) (by decide)
  have F7 : Fld Z h4 b4 cC3 "coder" "B" (VI 0) := D4 (Or.inr (WW hw 27)) (ty := .byte) (by decide)
  refine own_go st4 ?_
  show own_Fin p e below _ T4 (mkF m 12 #[SI p1, SI (((p1.toUInt32 >>> ((24 : Int32) &&& 31).toUInt32).toInt32) &&& (3 : Int32))] [VR b4])
  refine own_go (fun _ k => XS.dup X4.here hx rfl (hb hby d1_12) rfl rfl (XS.iconst X4.here hx rfl (hb hby d1_13) k)) ?_
  show own_Fin p e below _ T4 (mkF m 14 #[SI p1, SI (((p1.toUInt32 >>> ((24 : Int32) &&& 31).toUInt32).toInt32) &&& (3 : Int32))] [VI 0, VR b4, VR b4])
  obtain ⟨T8, h8, k8, X8, e8, E8, A8, st8⟩ := newP X4 hx hZ (WW hw 13) e4 (g := (mkF m 14 #[SI p1, SI (((p1.toUInt32 >>> ((24 : Int32) &&& 31).toUInt32).toInt32) &&& (3 : Int32))] [VI 0, VR b4, VR b4])) rfl (hb hby d1_14) rfl (by decide) (cap := 0) (by decide) (by decide) (by decide) (by decide)
  obtain ⟨b8, g8⟩ : ∃ z, z = h4.size := ⟨_, rfl⟩
  rw [← g8] at A8 st8
  have hR9 := hR5.trans (CHr.ext E8 hR5.1)
  have V8 : Arv Z h8 b8 k8 .char 0 [] (VI 0) := Arv.new A8 (by decide)
  refine own_go st8 ?_
  show own_Fin p e below _ T8 (mkF m 16 #[SI p1, SI (((p1.toUInt32 >>> ((24 : Int32) &&& 31).toUInt32).toInt32) &&& (3 : Int32))] [VR b8, VR b4, VR b4])
  have F10 : Exa Z h8 b4 cC3 := (A4.ext E8)
  have F11 : Fld Z h8 b4 cC3 "value" "[B" (.null) := (F6.ext E8)
  have F12 : Fld Z h8 b4 cC3 "coder" "B" (VI 0) := (F7.ext E8)
  have u14 : n0 ≤ b4 := Nat.le_trans Z0 (Nat.le_of_eq g4.symm)
  have z15 : h0.size ≤ h4.size := E4.1
  have z16 : h0.size ≤ h8.size := Nat.le_trans z15 E8.1
  obtain ⟨_, T13, L13, X13, hQ13, hS13, hZ13, ho13, hC13, st13⟩ := own_cIH (vm0 := (s.setVm s.vm).vm) X8 hx hZ hown hS0 (Nat.le_trans hk0 z16) hEL hR9.1 (WW hw 14) (WW hw 15) (WW hw 12) (WW hw 16) (rm3_1 l Z a0 hw [] b4 b8 k8 h8 n0 (Nat.le_trans Z0 z16) V8 F10 F11 F12 u14) e8 hml (g := (mkF m 16 #[SI p1, SI (((p1.toUInt32 >>> ((24 : Int32) &&& 31).toUInt32).toInt32) &&& (3 : Int32))] [VR b8, VR b4, VR b4])) pd2 (hb hby d1_16) b4 [VR b8] [VR b4] (W := 1)
  have hR13 := hR9.trans hC13
  obtain ⟨b10_9_13, kb10_9_13, rfl, N13q, K13, o0_13, o1_13, o2_13, o3_13⟩ := hQ13
  have N13 := Fr.app N2 N13q
  refine own_go st13 ?_
  show own_Fin p e below _ T13 (mkF m 19 #[SI p1, SI (((p1.toUInt32 >>> ((24 : Int32) &&& 31).toUInt32).toInt32) &&& (3 : Int32))] [VR b4])
  have K17 : Keep h0 T13.heap [] := ((((Keep.refl h0 []).ext E4).ext E8).trans K13 (allS (Or.inr (Nat.le_of_eq g4.symm)) all0))
  obtain ⟨fs, hr, hrun, hended, hend⟩ := Jvm.Stand.leaveW X13 hS13 (Nat.le_refl _) (v := some (.ref b4)) (fun h => by rw [hret] at h; cases h)
  refine own_end (retOut X13 hx hret rfl (Or.inr (Or.inr (Or.inr (Or.inr ⟨rfl, rfl, rfl⟩)))) (hb hby d1_19) hr) hrun hended ⟨_, _, rfl, ?_, ?_, hend.1, hend.2.1, hend.2.2.1, hend.2.2.2.mono (by decide) (by decide)⟩
  · show Q1_2 Z p1 h0 n0 _ T13.heap _
    exact ⟨b4, b10_9_13, kb10_9_13, rfl, N13, K17, (Nat.le_of_eq g4.symm), o0_13, o1_13, o2_13, o3_13⟩
  · show CHr Z own_EL s.vm s.heap T13.vm T13.heap
    rw [hh]
    exact hR13.trans (CHv.at X13 hZ13 hEL hR13.1)
theorem ef7_1 (m : MethodId) (a1 : Addr) : entryFrame m #[(.ref a1)] 1 = mkF m 0 #[SR a1] [] := by first | (simp [entryFrame, mkF, argsToLocals, Value.category]; done) | rfl
def Q7_1 (Z : State) (a1 : Addr) (h0 : Heap) (n0 : Nat) (v : Option Value) (h : Heap) (L : List Loc) : Prop := v = none ∧ Fr n0 L ∧ h = h0
set_option maxRecDepth 65536 in
set_option maxHeartbeats 40000000 in
theorem rm7_1 (l : Launch) (Z : State) (a0 : Array Value) (hw : HW a0 Z) (ws : List Jvm.Cond) (a1 : Addr) (h0 : Heap) (n0 : Nat) (Z0 : n0 ≤ h0.size) :
    MetFree l yM5 (head1 (Jvm.Cond.code yM5 jdk_30_method_1_code 1 none :: ws) ({ frames := 1, cells := 0, slots := 0, locals := 12 } : Room)) (fun a U => a = #[(.ref a1)] ∧ Z.Warmed39 U.vm ∧ U.heap = h0) (fun _ _ _ _ _ => True) (fun _ U o U' => ∃ v L, o = .returned v ∧ Q7_1 Z a1 h0 n0 v U'.heap L ∧ FrameEnd U o U' L ({ frames := 1, cells := 0, slots := 0, locals := 12 } : Room).cells ({ frames := 1, cells := 0, slots := 0, locals := 12 } : Room).slots) := by
  refine own_enter (n0 := n0) (plainFor_of_name pn7) (fun m => ef7_1 m a1) ?_
  intro p e s m below meth c s₁ hx hby hml hown hnm hret hlk X0 e0 hZ hh N0
  show own_Fin p e below _ s₁ (mkF m 0 #[SR a1] [])
  refine own_go (fun _ k => XS.aloadN X0.here hx rfl (hb hby d7_0) rfl rfl k) ?_
  show own_Fin p e below _ s₁ (mkF m 1 #[SR a1] [VR a1])
  obtain ⟨T2, X2, e2, st2⟩ := initO X0 hx hZ hown (WW hw 40) (WW hw 22) (WW hw 23) e0 (g := (mkF m 1 #[SR a1] [VR a1])) rfl (by rw [hml]; rfl) rfl (hb hby d7_1) (by decide) (W := 0) (by show 2 * 0 + _ ≤ _; exact Nat.le_of_eq rfl) (by decide)
  refine own_go st2 ?_
  show own_Fin p e below _ T2 (mkF m 4 #[SR a1] [])
  obtain ⟨fs, hr, hrun, hended, hW, hsame⟩ := X2.leave (v := none) (fun _ => rfl)
  refine own_end (X2.returnOut hx hret (hb hby d7_4) hr) hrun hended ⟨_, _, rfl, ?_, ⟨_, rfl⟩, hW, hsame.mono (by decide) (by decide)⟩
  show Q7_1 Z a1 h0 n0 _ T2.heap _
  rw [e2]
  exact ⟨rfl, N0, rfl⟩
theorem ef6_1 (m : MethodId) (a1 : Addr) (a2 : Addr) (a3 : Addr) (a4 : Addr) (a5 : Addr) : entryFrame m #[(.ref a1), (.ref a2), (.ref a3), (.ref a4), (.ref a5)] 5 = mkF m 0 #[SR a1, SR a2, SR a3, SR a4, SR a5] [] := by first | (simp [entryFrame, mkF, argsToLocals, Value.category]; done) | rfl
def Q6_1 (Z : State) (a1 : Addr) (a2 : Addr) (a3 : Addr) (a4 : Addr) (a5 : Addr) (h0 : Heap) (n0 : Nat) (v : Option Value) (h : Heap) (L : List Loc) : Prop := v = none ∧ Fr n0 L ∧ Keep h0 h [a1] ∧ Exa Z h a1 cC0 ∧ Fld Z h a1 cC0 "printed" cC1 (VR a2) ∧ Fld Z h a1 cC0 "article" cC1 (VR a3) ∧ Fld Z h a1 cC0 "clause" cC1 (VR a4) ∧ Fld Z h a1 cC0 "rest" cC1 (VR a5)
set_option maxRecDepth 65536 in
set_option maxHeartbeats 40000000 in
theorem rm6_1 (l : Launch) (Z : State) (a0 : Array Value) (hw : HW a0 Z) (ws : List Jvm.Cond) (a1 : Addr) (a2 : Addr) (a3 : Addr) (a4 : Addr) (a5 : Addr) (h0 : Heap) (n0 : Nat) (Z0 : n0 ≤ h0.size) (f7 : Exa Z h0 a1 cC0) (f8 : Fld Z h0 a1 cC0 "printed" cC1 (.null)) (f10 : n0 ≤ a1) (f12 : Fld Z h0 a1 cC0 "article" cC1 (.null)) (f16 : Fld Z h0 a1 cC0 "clause" cC1 (.null)) (f20 : Fld Z h0 a1 cC0 "rest" cC1 (.null)) :
    MetFree l yM6 (head1 (Jvm.Cond.code yM6 prog_105_method_1_code 5 none :: ws) ({ frames := 2, cells := 0, slots := 0, locals := 24 } : Room)) (fun a U => a = #[(.ref a1), (.ref a2), (.ref a3), (.ref a4), (.ref a5)] ∧ Z.Warmed39 U.vm ∧ U.heap = h0) (fun _ _ _ _ _ => True) (fun _ U o U' => ∃ v L, o = .returned v ∧ Q6_1 Z a1 a2 a3 a4 a5 h0 n0 v U'.heap L ∧ FrameEnd U o U' L ({ frames := 2, cells := 0, slots := 0, locals := 24 } : Room).cells ({ frames := 2, cells := 0, slots := 0, locals := 24 } : Room).slots) := by
  refine own_enter (n0 := n0) (plainFor_of_name pn6) (fun m => ef6_1 m a1 a2 a3 a4 a5) ?_
  intro p e s m below meth c s₁ hx hby hml hown hnm hret hlk X0 e0 hZ hh N0
  show own_Fin p e below _ s₁ (mkF m 0 #[SR a1, SR a2, SR a3, SR a4, SR a5] [])
  refine own_go (fun _ k => XS.aloadN X0.here hx rfl (hb hby d6_0) rfl rfl k) ?_
  show own_Fin p e below _ s₁ (mkF m 1 #[SR a1, SR a2, SR a3, SR a4, SR a5] [VR a1])
  obtain ⟨_, T6, L6, X6, hQ6, st6⟩ := own_cI X0 hx hZ hown (WW hw 35) (WW hw 36) (WW hw 38) (WW hw 39) (rm7_1 l Z a0 hw [] a1 h0 n0 Z0 ) e0 hml (g := (mkF m 1 #[SR a1, SR a2, SR a3, SR a4, SR a5] [VR a1])) pd5 (hb hby d6_1) a1 [] [] (W := 0)
  obtain ⟨rfl, N6q, e6⟩ := hQ6
  have N6 := Fr.app N0 N6q
  refine own_go st6 ?_
  show own_Fin p e below _ T6 (mkF m 4 #[SR a1, SR a2, SR a3, SR a4, SR a5] [])
  refine own_go (fun _ k => XS.aloadN X6.here hx rfl (hb hby d6_4) rfl rfl (XS.aloadN X6.here hx rfl (hb hby d6_5) rfl rfl k)) ?_
  show own_Fin p e below _ T6 (mkF m 6 #[SR a1, SR a2, SR a3, SR a4, SR a5] [VR a2, VR a1])
  obtain ⟨T9, h9, X9, e9, W9, st9⟩ := putF X6 hx hZ hown (host := "") (Or.inl (WW hw 41)) Via.refl e6 f8 f7 (Or.inr ⟨(WW hw 42), rfl, hnm⟩) (WW hw 1) (ty := (.object "java/lang/String")) (by decide) rfl rfl (g := (mkF m 6 #[SR a1, SR a2, SR a3, SR a4, SR a5] [VR a2, VR a1])) rfl rfl (hb hby d6_6)
  have N9 := Fr.snoc X9 N6 f10
  have Fw9 : Fld Z h9 a1 cC0 "printed" cC1 (VR a2) := f8.same W9
  refine own_go st9 ?_
  show own_Fin p e below _ T9 (mkF m 9 #[SR a1, SR a2, SR a3, SR a4, SR a5] [])
  refine own_go (fun _ k => XS.aloadN X9.here hx rfl (hb hby d6_9) rfl rfl (XS.aloadN X9.here hx rfl (hb hby d6_10) rfl rfl k)) ?_
  show own_Fin p e below _ T9 (mkF m 11 #[SR a1, SR a2, SR a3, SR a4, SR a5] [VR a3, VR a1])
  have F11 : Exa Z h9 a1 cC0 := (f7.wr W9)
  have F13 : Fld Z h9 a1 cC0 "article" cC1 (.null) := (f12.other W9 (Or.inr (slot_ne (Or.inr (WW hw 44)) (Or.inr (WW hw 42)) (by decide) (t := (.object "java/lang/String")) (t' := (.object "java/lang/String")) (by decide) (by decide))))
  obtain ⟨T14, h14, X14, e14, W14, st14⟩ := putF X9 hx hZ hown (host := "") (Or.inl (WW hw 43)) Via.refl e9 F13 F11 (Or.inr ⟨(WW hw 44), rfl, hnm⟩) (WW hw 1) (ty := (.object "java/lang/String")) (by decide) rfl rfl (g := (mkF m 11 #[SR a1, SR a2, SR a3, SR a4, SR a5] [VR a3, VR a1])) rfl rfl (hb hby d6_11)
  have N14 := Fr.snoc X14 N9 f10
  have Fw14 : Fld Z h14 a1 cC0 "article" cC1 (VR a3) := F13.same W14
  refine own_go st14 ?_
  show own_Fin p e below _ T14 (mkF m 14 #[SR a1, SR a2, SR a3, SR a4, SR a5] [])
  refine own_go (fun _ k => XS.aloadN X14.here hx rfl (hb hby d6_14) rfl rfl (XS.aloadN X14.here hx rfl (hb hby d6_15) rfl rfl k)) ?_
  show own_Fin p e below _ T14 (mkF m 16 #[SR a1, SR a2, SR a3, SR a4, SR a5] [VR a4, VR a1])
  have F15 : Exa Z h14 a1 cC0 := (F11.wr W14)
  have F17 : Fld Z h14 a1 cC0 "clause" cC1 (.null) := ((f16.other W9 (Or.inr (slot_ne (Or.inr (WW hw 46)) (Or.inr (WW hw 42)) (by decide) (t := (.object "java/lang/String")) (t' := (.object "java/lang/String")) (by decide) (by decide)))).other W14 (Or.inr (slot_ne (Or.inr (WW hw 46)) (Or.inr (WW hw 44)) (by decide) (t := (.object "java/lang/String")) (t' := (.object "java/lang/String")) (by decide) (by decide))))
  obtain ⟨T18, h18, X18, e18, W18, st18⟩ := putF X14 hx hZ hown (host := "") (Or.inl (WW hw 45)) Via.refl e14 F17 F15 (Or.inr ⟨(WW hw 46), rfl, hnm⟩) (WW hw 1) (ty := (.object "java/lang/String")) (by decide) rfl rfl (g := (mkF m 16 #[SR a1, SR a2, SR a3, SR a4, SR a5] [VR a4, VR a1])) rfl rfl (hb hby d6_16)
  have N18 := Fr.snoc X18 N14 f10
  have Fw18 : Fld Z h18 a1 cC0 "clause" cC1 (VR a4) := F17.same W18
  refine own_go st18 ?_
  show own_Fin p e below _ T18 (mkF m 19 #[SR a1, SR a2, SR a3, SR a4, SR a5] [])
  refine own_go (fun _ k => XS.aloadN X18.here hx rfl (hb hby d6_19) rfl rfl (XS.aload X18.here hx rfl (hb hby d6_20) rfl rfl k)) ?_
  show own_Fin p e below _ T18 (mkF m 22 #[SR a1, SR a2, SR a3, SR a4, SR a5] [VR a5, VR a1])
  have F19 : Exa Z h18 a1 cC0 := (F15.wr W18)
  have F21 : Fld Z h18 a1 cC0 "rest" cC1 (.null) := (((f20.other W9 (Or.inr (slot_ne (Or.inr (WW hw 48)) (Or.inr (WW hw 42)) (by decide) (t := (.object "java/lang/String")) (t' := (.object "java/lang/String")) (by decide) (by decide)))).other W14 (Or.inr (slot_ne (Or.inr (WW hw 48)) (Or.inr (WW hw 44)) (by decide) (t := (.object "java/lang/String")) (t' := (.object "java/lang/String")) (by decide) (by decide)))).other W18 (Or.inr (slot_ne (Or.inr (WW hw 48)) (Or.inr (WW hw 46)) (by decide) (t := (.object "java/lang/String")) (t' := (.object "java/lang/String")) (by decide) (by decide))))
  obtain ⟨T22, h22, X22, e22, W22, st22⟩ := putF X18 hx hZ hown (host := "") (Or.inl (WW hw 47)) Via.refl e18 F21 F19 (Or.inr ⟨(WW hw 48), rfl, hnm⟩) (WW hw 1) (ty := (.object "java/lang/String")) (by decide) rfl rfl (g := (mkF m 22 #[SR a1, SR a2, SR a3, SR a4, SR a5] [VR a5, VR a1])) rfl rfl (hb hby d6_22)
  have N22 := Fr.snoc X22 N18 f10
  have Fw22 : Fld Z h22 a1 cC0 "rest" cC1 (VR a5) := F21.same W22
  refine own_go st22 ?_
  show own_Fin p e below _ T22 (mkF m 25 #[SR a1, SR a2, SR a3, SR a4, SR a5] [])
  have F23 : Exa Z h22 a1 cC0 := (F19.wr W22)
  have F24 : Fld Z h22 a1 cC0 "printed" cC1 (VR a2) := (((Fw9.other W14 (Or.inr (slot_ne (Or.inr (WW hw 42)) (Or.inr (WW hw 44)) (by decide) (t := (.object "java/lang/String")) (t' := (.object "java/lang/String")) (by decide) (by decide)))).other W18 (Or.inr (slot_ne (Or.inr (WW hw 42)) (Or.inr (WW hw 46)) (by decide) (t := (.object "java/lang/String")) (t' := (.object "java/lang/String")) (by decide) (by decide)))).other W22 (Or.inr (slot_ne (Or.inr (WW hw 42)) (Or.inr (WW hw 48)) (by decide) (t := (.object "java/lang/String")) (t' := (.object "java/lang/String")) (by decide) (by decide))))
  have F25 : Fld Z h22 a1 cC0 "article" cC1 (VR a3) := ((Fw14.other W18 (Or.inr (slot_ne (Or.inr (WW hw 44)) (Or.inr (WW hw 46)) (by decide) (t := (.object "java/lang/String")) (t' := (.object "java/lang/String")) (by decide) (by decide)))).other W22 (Or.inr (slot_ne (Or.inr (WW hw 44)) (Or.inr (WW hw 48)) (by decide) (t := (.object "java/lang/String")) (t' := (.object "java/lang/String")) (by decide) (by decide))))
  have F26 : Fld Z h22 a1 cC0 "clause" cC1 (VR a4) := (Fw18.other W22 (Or.inr (slot_ne (Or.inr (WW hw 46)) (Or.inr (WW hw 48)) (by decide) (t := (.object "java/lang/String")) (t' := (.object "java/lang/String")) (by decide) (by decide))))
  have K27 : Keep h0 h22 [a1] := (((((Keep.refl h0 [a1]).wr W9 (Or.inl (List.mem_of_getElem? (i := 0) rfl))).wr W14 (Or.inl (List.mem_of_getElem? (i := 0) rfl))).wr W18 (Or.inl (List.mem_of_getElem? (i := 0) rfl))).wr W22 (Or.inl (List.mem_of_getElem? (i := 0) rfl)))
  obtain ⟨fs, hr, hrun, hended, hW, hsame⟩ := X22.leave (v := none) (fun _ => rfl)
  refine own_end (X22.returnOut hx hret (hb hby d6_25) hr) hrun hended ⟨_, _, rfl, ?_, ⟨_, rfl⟩, hW, hsame.mono (by decide) (by decide)⟩
  show Q6_1 Z a1 a2 a3 a4 a5 h0 n0 _ T22.heap _
  rw [e22]
  exact ⟨rfl, N22, K27, F23, F24, F25, F26, Fw22⟩
def own_f8_m7 (P1_ : Int32) : Int32 := (1 : Int32)
theorem ef8_m7 (m : MethodId) (P1_ : Int32) : entryFrame m #[(.int P1_)] 5 = mkF m 0 #[SI P1_, SU, SU, SU, SU] [] := by first | (simp [entryFrame, mkF, argsToLocals, Value.category]; done) | rfl
def Q8_m7 (Z : State) (P1_ : Int32) (h0 : Heap) (n0 : Nat) (v : Option Value) (h : Heap) (L : List Loc) : Prop := v = some (.int (own_f8_m7 P1_)) ∧ Fr n0 L ∧ h = h0
set_option maxRecDepth 65536 in
set_option maxHeartbeats 40000000 in
theorem rm8_m7 (l : Launch) (Z : State) (a0 : Array Value) (hw : HW a0 Z) (ws : List Jvm.Cond) (P1_ : Int32) (h0 : Heap) (n0 : Nat) (Z0 : n0 ≤ h0.size) (fm1_ : (((P1_.toUInt32 >>> ((24 : Int32) &&& 31).toUInt32).toInt32) &&& (3 : Int32)) < (1 : Int32)) (fm2_ : (((P1_.toUInt32 >>> ((24 : Int32) &&& 31).toUInt32).toInt32) &&& (3 : Int32)) < (2 : Int32)) (fm3_ : (((P1_.toUInt32 >>> ((24 : Int32) &&& 31).toUInt32).toInt32) &&& (3 : Int32)) < (3 : Int32)) :
    MetFree l yM7 (head1 (Jvm.Cond.code yM7 method_6_code 5 (some .boolean) :: ws) ({ frames := 1, cells := 0, slots := 0, locals := 12 } : Room)) (fun a U => a = #[(.int P1_)] ∧ Z.Warmed39 U.vm ∧ U.heap = h0) (fun _ _ _ _ _ => True) (fun _ U o U' => ∃ v L, o = .returned v ∧ Q8_m7 Z P1_ h0 n0 v U'.heap L ∧ FrameEnd U o U' L ({ frames := 1, cells := 0, slots := 0, locals := 12 } : Room).cells ({ frames := 1, cells := 0, slots := 0, locals := 12 } : Room).slots) := by
  refine own_enter (n0 := n0) (plainFor_of_name pn0) (fun m => ef8_m7 m P1_) ?_
  intro p e s m below meth c s₁ hx hby hml hown hnm hret hlk X0 e0 hZ hh N0
  show own_Fin p e below _ s₁ (mkF m 0 #[SI P1_, SU, SU, SU, SU] [])
  refine own_go (fun _ k => XS.iloadN X0.here hx rfl (hb hby d8_0) rfl k) ?_
  show own_Fin p e below _ s₁ (mkF m 1 #[SI P1_, SU, SU, SU, SU] [VI P1_])
  obtain ⟨_, T1, L1, X1, hQ1, st1⟩ := own_cS X0 hx hZ hown (WW hw 7) (WW hw 8) (WW hw 5) (WW hw 9) (rm2_1 l Z a0 hw [] P1_ h0 n0 Z0 ) e0 hml (g := (mkF m 1 #[SI P1_, SU, SU, SU, SU] [VI P1_])) pd0 (hb hby d8_1) [VI P1_] [] (W := 0)
  obtain ⟨rfl, N1q, e1⟩ := hQ1
  have N1 := Fr.app N0 N1q
  refine own_go st1 ?_
  show own_Fin p e below _ T1 (mkF m 4 #[SI P1_, SU, SU, SU, SU] [VI (((P1_.toUInt32 >>> ((24 : Int32) &&& 31).toUInt32).toInt32) &&& (3 : Int32))])
  refine own_go (fun _ k => XS.istoreN X1.here hx rfl (hb hby d8_4) rfl (l' := #[SI P1_, SI (((P1_.toUInt32 >>> ((24 : Int32) &&& 31).toUInt32).toInt32) &&& (3 : Int32)), SU, SU, SU]) rfl (XS.iloadN X1.here hx rfl (hb hby d8_5) rfl (XS.iconst X1.here hx rfl (hb hby d8_6) (XS.icmpYes X1.here hx rfl (pc0 := 7) (pc' := 20) rfl (hb hby d8_7) rfl (tlt fm1_).1 (by decide) (by decide) (XS.iconst X1.here hx rfl (hb hby d8_20) (XS.goto X1.here hx rfl (pc0 := 21) (pc' := 25) rfl (hb hby d8_21) (by decide) (by decide) (XS.istoreN X1.here hx rfl (hb hby d8_25) rfl (l' := #[SI P1_, SI (((P1_.toUInt32 >>> ((24 : Int32) &&& 31).toUInt32).toInt32) &&& (3 : Int32)), SI 1, SU, SU]) rfl (XS.iloadN X1.here hx rfl (hb hby d8_26) rfl (XS.iconst X1.here hx rfl (hb hby d8_27) (XS.icmpYes X1.here hx rfl (pc0 := 28) (pc' := 41) rfl (hb hby d8_28) rfl (tlt fm2_).1 (by decide) (by decide) k)))))))))) ?_
  show own_Fin p e below _ T1 (mkF m 41 #[SI P1_, SI (((P1_.toUInt32 >>> ((24 : Int32) &&& 31).toUInt32).toInt32) &&& (3 : Int32)), SI 1, SU, SU] [])
  refine own_go (fun _ k => XS.iconst X1.here hx rfl (hb hby d8_41) (XS.goto X1.here hx rfl (pc0 := 42) (pc' := 46) rfl (hb hby d8_42) (by decide) (by decide) (XS.istoreN X1.here hx rfl (hb hby d8_46) rfl (l' := #[SI P1_, SI (((P1_.toUInt32 >>> ((24 : Int32) &&& 31).toUInt32).toInt32) &&& (3 : Int32)), SI 1, SI 1, SU]) rfl (XS.iloadN X1.here hx rfl (hb hby d8_47) rfl (XS.iconst X1.here hx rfl (hb hby d8_48) (XS.icmpYes X1.here hx rfl (pc0 := 49) (pc' := 62) rfl (hb hby d8_49) rfl (tlt fm3_).1 (by decide) (by decide) (XS.iconst X1.here hx rfl (hb hby d8_62) (XS.goto X1.here hx rfl (pc0 := 63) (pc' := 67) rfl (hb hby d8_63) (by decide) (by decide) (XS.istore X1.here hx rfl (hb hby d8_67) rfl (l' := #[SI P1_, SI (((P1_.toUInt32 >>> ((24 : Int32) &&& 31).toUInt32).toInt32) &&& (3 : Int32)), SI 1, SI 1, SI 1]) rfl (XS.iloadN X1.here hx rfl (hb hby d8_69) rfl k)))))))))) ?_
  show own_Fin p e below _ T1 (mkF m 70 #[SI P1_, SI (((P1_.toUInt32 >>> ((24 : Int32) &&& 31).toUInt32).toInt32) &&& (3 : Int32)), SI 1, SI 1, SI 1] [VI 1])
  refine own_go (fun _ k => XS.ifNo X1.here hx rfl (hb hby d8_70) rfl ((if0 _ _).trans (feq (by decide : ¬ ((1 : Int32) = (0 : Int32)))).1) (XS.iloadN X1.here hx rfl (hb hby d8_73) rfl (XS.ifNo X1.here hx rfl (hb hby d8_74) rfl ((if0 _ _).trans (feq (by decide : ¬ ((1 : Int32) = (0 : Int32)))).1) (XS.iload X1.here hx rfl (hb hby d8_77) rfl (XS.ifNo X1.here hx rfl (hb hby d8_79) rfl ((if0 _ _).trans (feq (by decide : ¬ ((1 : Int32) = (0 : Int32)))).1) (XS.iconst X1.here hx rfl (hb hby d8_82) (XS.goto X1.here hx rfl (pc0 := 83) (pc' := 87) rfl (hb hby d8_83) (by decide) (by decide) k))))))) ?_
  show own_Fin p e below _ T1 (mkF m 87 #[SI P1_, SI (((P1_.toUInt32 >>> ((24 : Int32) &&& 31).toUInt32).toInt32) &&& (3 : Int32)), SI 1, SI 1, SI 1] [VI 1])
  obtain ⟨fs, hr, hrun, hended, hW, hsame⟩ := X1.leave (v := some (.int (1 : Int32))) (fun h => by rw [hret] at h; cases h)
  refine own_end (retN X1 hx (t := .boolean) hret (by simp) (hb hby d8_87) hr) hrun hended ⟨_, _, rfl, ?_, ⟨_, rfl⟩, hW, hsame.mono (by decide) (by decide)⟩
  show Q8_m7 Z P1_ h0 n0 _ T1.heap _
  rw [e1]
  exact ⟨rfl, N1, rfl⟩
theorem ef12_1 (m : MethodId) (a1 : Addr) : entryFrame m #[(.ref a1)] 1 = mkF m 0 #[SR a1] [] := by first | (simp [entryFrame, mkF, argsToLocals, Value.category]; done) | rfl
def Q12_1 (Z : State) (a1 : Addr) (p2 : Int32) (h0 : Heap) (n0 : Nat) (v : Option Value) (h : Heap) (L : List Loc) : Prop := v = some (.int (1 : Int32)) ∧ Fr n0 L ∧ h = h0
set_option maxRecDepth 65536 in
set_option maxHeartbeats 40000000 in
theorem rm12_1 (l : Launch) (Z : State) (a0 : Array Value) (hw : HW a0 Z) (ws : List Jvm.Cond) (a1 : Addr) (p2 : Int32) (h0 : Heap) (n0 : Nat) (Z0 : n0 ≤ h0.size) (f3 : Sta Z Z.heap "java/lang/String" "COMPACT_STRINGS" "Z" (.int p2)) (f4 : Old Z n0 h0) (f6 : ¬ (p2 = (0 : Int32))) (f7 : Fld Z h0 a1 cC3 "coder" "B" (VI 0)) :
    MetFree l yM8 (head1 (Jvm.Cond.code yM8 jdk_42_method_154_code 1 (some .boolean) :: ws) ({ frames := 0, cells := 0, slots := 0, locals := 0 } : Room)) (fun a U => a = #[(.ref a1)] ∧ Z.Warmed39 U.vm ∧ U.heap = h0) (fun _ _ _ _ _ => True) (fun _ U o U' => ∃ v L, o = .returned v ∧ Q12_1 Z a1 p2 h0 n0 v U'.heap L ∧ FrameEnd U o U' L ({ frames := 0, cells := 0, slots := 0, locals := 0 } : Room).cells ({ frames := 0, cells := 0, slots := 0, locals := 0 } : Room).slots) := by
  refine own_enter (n0 := n0) (plainFor_of_name pn3) (fun m => ef12_1 m a1) ?_
  intro p e s m below meth c s₁ hx hby hml hown hnm hret hlk X0 e0 hZ hh N0
  show own_Fin p e below _ s₁ (mkF m 0 #[SR a1] [])
  obtain ⟨T5, X5, e5, st5⟩ := getS2 X0 hx hZ hown (host := "") (Or.inl (WW hw 72)) Via.refl e0 (f3.ext f4.2) (g := (mkF m 0 #[SR a1] [])) rfl (hb hby d12_0)
  refine own_go st5 ?_
  show own_Fin p e below _ T5 (mkF m 3 #[SR a1] [VI p2])
  refine own_go (fun _ k => XS.ifNo X5.here hx rfl (hb hby d12_3) rfl ((if0 _ _).trans (feq f6).1) (XS.aloadN X5.here hx rfl (hb hby d12_6) rfl rfl k)) ?_
  show own_Fin p e below _ T5 (mkF m 7 #[SR a1] [VR a1])
  obtain ⟨T8, X8, e8, st8⟩ := getF X5 hx hZ hown (host := "") (Or.inl (WW hw 31)) Via.refl e5 f7 (g := (mkF m 7 #[SR a1] [VR a1])) rfl rfl (hb hby d12_7)
  refine own_go st8 ?_
  show own_Fin p e below _ T8 (mkF m 10 #[SR a1] [VI 0])
  refine own_go (fun _ k => XS.ifNo X8.here hx rfl (hb hby d12_10) rfl ((if0 _ _).trans (teq (by decide : (0 : Int32) = (0 : Int32))).2) (XS.iconst X8.here hx rfl (hb hby d12_13) (XS.goto X8.here hx rfl (pc0 := 14) (pc' := 18) rfl (hb hby d12_14) (by decide) (by decide) k))) ?_
  show own_Fin p e below _ T8 (mkF m 18 #[SR a1] [VI 1])
  obtain ⟨fs, hr, hrun, hended, hW, hsame⟩ := X8.leave (v := some (.int (1 : Int32))) (fun h => by rw [hret] at h; cases h)
  refine own_end (retN X8 hx (t := .boolean) hret (by simp) (hb hby d12_18) hr) hrun hended ⟨_, _, rfl, ?_, ⟨_, rfl⟩, hW, hsame.mono (by decide) (by decide)⟩
  show Q12_1 Z a1 p2 h0 n0 _ T8.heap _
  rw [e8]
  exact ⟨rfl, N0, rfl⟩
theorem ef14_1 (m : MethodId) (a1 : Addr) : entryFrame m #[(.ref a1)] 1 = mkF m 0 #[SR a1] [] := by first | (simp [entryFrame, mkF, argsToLocals, Value.category]; done) | rfl
def Q14_1 (Z : State) (a1 : Addr) (p2 : Int32) (h0 : Heap) (n0 : Nat) (v : Option Value) (h : Heap) (L : List Loc) : Prop := v = some (.int (0 : Int32)) ∧ Fr n0 L ∧ h = h0
set_option maxRecDepth 65536 in
set_option maxHeartbeats 40000000 in
theorem rm14_1 (l : Launch) (Z : State) (a0 : Array Value) (hw : HW a0 Z) (ws : List Jvm.Cond) (a1 : Addr) (p2 : Int32) (h0 : Heap) (n0 : Nat) (Z0 : n0 ≤ h0.size) (f3 : Sta Z Z.heap "java/lang/String" "COMPACT_STRINGS" "Z" (.int p2)) (f4 : Old Z n0 h0) (f6 : ¬ (p2 = (0 : Int32))) (f7 : Fld Z h0 a1 cC3 "coder" "B" (VI 0)) :
    MetFree l yM9 (head1 (Jvm.Cond.code yM9 jdk_42_method_152_code 1 (some .byte) :: ws) ({ frames := 0, cells := 0, slots := 0, locals := 0 } : Room)) (fun a U => a = #[(.ref a1)] ∧ Z.Warmed39 U.vm ∧ U.heap = h0) (fun _ _ _ _ _ => True) (fun _ U o U' => ∃ v L, o = .returned v ∧ Q14_1 Z a1 p2 h0 n0 v U'.heap L ∧ FrameEnd U o U' L ({ frames := 0, cells := 0, slots := 0, locals := 0 } : Room).cells ({ frames := 0, cells := 0, slots := 0, locals := 0 } : Room).slots) := by
  refine own_enter (n0 := n0) (plainFor_of_name pn3) (fun m => ef14_1 m a1) ?_
  intro p e s m below meth c s₁ hx hby hml hown hnm hret hlk X0 e0 hZ hh N0
  show own_Fin p e below _ s₁ (mkF m 0 #[SR a1] [])
  obtain ⟨T5, X5, e5, st5⟩ := getS2 X0 hx hZ hown (host := "") (Or.inl (WW hw 72)) Via.refl e0 (f3.ext f4.2) (g := (mkF m 0 #[SR a1] [])) rfl (hb hby d14_0)
  refine own_go st5 ?_
  show own_Fin p e below _ T5 (mkF m 3 #[SR a1] [VI p2])
  refine own_go (fun _ k => XS.ifNo X5.here hx rfl (hb hby d14_3) rfl ((if0 _ _).trans (feq f6).1) (XS.aloadN X5.here hx rfl (hb hby d14_6) rfl rfl k)) ?_
  show own_Fin p e below _ T5 (mkF m 7 #[SR a1] [VR a1])
  obtain ⟨T8, X8, e8, st8⟩ := getF X5 hx hZ hown (host := "") (Or.inl (WW hw 31)) Via.refl e5 f7 (g := (mkF m 7 #[SR a1] [VR a1])) rfl rfl (hb hby d14_7)
  refine own_go st8 ?_
  show own_Fin p e below _ T8 (mkF m 10 #[SR a1] [VI 0])
  refine own_go (fun _ k => XS.goto X8.here hx rfl (pc0 := 10) (pc' := 14) rfl (hb hby d14_10) (by decide) (by decide) k) ?_
  show own_Fin p e below _ T8 (mkF m 14 #[SR a1] [VI 0])
  obtain ⟨fs, hr, hrun, hended, hW, hsame⟩ := X8.leave (v := some (.int (0 : Int32))) (fun h => by rw [hret] at h; cases h)
  refine own_end (retN X8 hx (t := .byte) hret (by simp) (hb hby d14_14) hr) hrun hended ⟨_, _, rfl, ?_, ⟨_, rfl⟩, hW, hsame.mono (by decide) (by decide)⟩
  show Q14_1 Z a1 p2 h0 n0 _ T8.heap _
  rw [e8]
  exact ⟨rfl, N0, rfl⟩
theorem ef13_1 (m : MethodId) (a1 : Addr) : entryFrame m #[(.ref a1)] 1 = mkF m 0 #[SR a1] [] := by first | (simp [entryFrame, mkF, argsToLocals, Value.category]; done) | rfl
def Q13_1 (Z : State) (a1 : Addr) (a2 : Addr) (k5 : ClassId) (p9 : Int32) (h0 : Heap) (n0 : Nat) (v : Option Value) (h : Heap) (L : List Loc) : Prop := v = some (.int (0 : Int32)) ∧ Fr n0 L ∧ h = h0
set_option maxRecDepth 65536 in
set_option maxHeartbeats 40000000 in
theorem rm13_1 (l : Launch) (Z : State) (a0 : Array Value) (hw : HW a0 Z) (ws : List Jvm.Cond) (a1 : Addr) (a2 : Addr) (k5 : ClassId) (p9 : Int32) (h0 : Heap) (n0 : Nat) (Z0 : n0 ≤ h0.size) (f3 : Fld Z h0 a1 cC3 "value" "[B" (VR a2)) (f6 : Arv Z h0 a2 k5 .byte 0 [] (VI 0)) (f8 : Exa Z h0 a1 cC3) (f10 : Sta Z Z.heap "java/lang/String" "COMPACT_STRINGS" "Z" (.int p9)) (f11 : Old Z n0 h0) (f12 : ¬ (p9 = (0 : Int32))) (f13 : Fld Z h0 a1 cC3 "coder" "B" (VI 0)) :
    MetFree l yM10 (head1 (Jvm.Cond.code yM10 jdk_42_method_54_code 1 (some .int) :: ws) ({ frames := 1, cells := 0, slots := 0, locals := 13 } : Room)) (fun a U => a = #[(.ref a1)] ∧ Z.Warmed39 U.vm ∧ U.heap = h0) (fun _ _ _ _ _ => True) (fun _ U o U' => ∃ v L, o = .returned v ∧ Q13_1 Z a1 a2 k5 p9 h0 n0 v U'.heap L ∧ FrameEnd U o U' L ({ frames := 1, cells := 0, slots := 0, locals := 13 } : Room).cells ({ frames := 1, cells := 0, slots := 0, locals := 13 } : Room).slots) := by
  refine own_enter (n0 := n0) (plainFor_of_name pn3) (fun m => ef13_1 m a1) ?_
  intro p e s m below meth c s₁ hx hby hml hown hnm hret hlk X0 e0 hZ hh N0
  show own_Fin p e below _ s₁ (mkF m 0 #[SR a1] [])
  refine own_go (fun _ k => XS.aloadN X0.here hx rfl (hb hby d13_0) rfl rfl k) ?_
  show own_Fin p e below _ s₁ (mkF m 1 #[SR a1] [VR a1])
  obtain ⟨T4, X4, e4, st4⟩ := getF X0 hx hZ hown (host := "") (Or.inl (WW hw 30)) Via.refl e0 f3 (g := (mkF m 1 #[SR a1] [VR a1])) rfl rfl (hb hby d13_1)
  refine own_go st4 ?_
  show own_Fin p e below _ T4 (mkF m 4 #[SR a1] [VR a2])
  obtain ⟨cl7, Ar7, q7, Sz7, Nn7, Hs7, Gg7⟩ := id f6
  refine own_go (fun _ k => X4.arraylength hx (by rw [e4]; exact Ar7.1) (State.isArrayOf_alike hZ.alike Ar7.2.1) (g := (mkF m 4 #[SR a1] [VR a2])) rfl rfl (hb hby d13_4) _ k) ?_
  rw [len_of Sz7 Nn7]
  show own_Fin p e below _ T4 (mkF m 5 #[SR a1] [VI 0])
  refine own_go (fun _ k => XS.aloadN X4.here hx rfl (hb hby d13_5) rfl rfl k) ?_
  show own_Fin p e below _ T4 (mkF m 6 #[SR a1] [VR a1, VI 0])
  obtain ⟨_, T14, L14, X14, hQ14, st14⟩ := own_cV X4 hx hZ hown (WW hw 78) (WW hw 79) (notFace_of_selects (args := #[]) (mvT hZ (WW hw 81))) (WW hw 81) (WW hw 80) (WW hw 12) (WW hw 82) (rm14_1 l Z a0 hw [] a1 p9 h0 n0 Z0 f10 f11 f12 f13) e4 f8 hml (g := (mkF m 6 #[SR a1] [VR a1, VI 0])) pd9 (hb hby d13_6) [] [VI 0] (W := 1)
  obtain ⟨rfl, N14q, e14⟩ := hQ14
  have N14 := Fr.app N0 N14q
  refine own_go st14 ?_
  show own_Fin p e below _ T14 (mkF m 9 #[SR a1] [VI 0, VI 0])
  refine own_go (fun _ k => XS.ishr X14.here hx rfl (hb hby d13_9) rfl k) ?_
  show own_Fin p e below _ T14 (mkF m 10 #[SR a1] [VI 0])
  obtain ⟨fs, hr, hrun, hended, hW, hsame⟩ := X14.leave (v := some (.int (0 : Int32))) (fun h => by rw [hret] at h; cases h)
  refine own_end (retOut X14 hx hret rfl (Or.inl ⟨rfl, Or.inl rfl, _, rfl⟩) (hb hby d13_10) hr) hrun hended ⟨_, _, rfl, ?_, ⟨_, rfl⟩, hW, hsame.mono (by decide) (by decide)⟩
  show Q13_1 Z a1 a2 k5 p9 h0 n0 _ T14.heap _
  rw [e14]
  exact ⟨rfl, N14, rfl⟩
theorem ef16_1 (m : MethodId) (p1 : Int32) : entryFrame m #[(.int p1)] 1 = mkF m 0 #[SI p1] [] := by first | (simp [entryFrame, mkF, argsToLocals, Value.category]; done) | rfl
def Q16_1 (Z : State) (p1 : Int32) (h0 : Heap) (n0 : Nat) (v : Option Value) (h : Heap) (L : List Loc) : Prop := v = some (.int (1 : Int32)) ∧ Fr n0 L ∧ h = h0
set_option maxRecDepth 65536 in
set_option maxHeartbeats 40000000 in
theorem rm16_1 (l : Launch) (Z : State) (a0 : Array Value) (hw : HW a0 Z) (ws : List Jvm.Cond) (p1 : Int32) (h0 : Heap) (n0 : Nat) (Z0 : n0 ≤ h0.size) (f2 : ¬ (p1 < (0 : Int32))) (f3 : ¬ ((255 : Int32) < p1)) :
    MetFree l yM11 (head1 (Jvm.Cond.code yM11 jdk_43_method_4_code 1 (some .boolean) :: ws) ({ frames := 0, cells := 0, slots := 0, locals := 0 } : Room)) (fun a U => a = #[(.int p1)] ∧ Z.Warmed39 U.vm ∧ U.heap = h0) (fun _ _ _ _ _ => True) (fun _ U o U' => ∃ v L, o = .returned v ∧ Q16_1 Z p1 h0 n0 v U'.heap L ∧ FrameEnd U o U' L ({ frames := 0, cells := 0, slots := 0, locals := 0 } : Room).cells ({ frames := 0, cells := 0, slots := 0, locals := 0 } : Room).slots) := by
  refine own_enter (n0 := n0) (plainFor_of_name pn15) (fun m => ef16_1 m p1) ?_
  intro p e s m below meth c s₁ hx hby hml hown hnm hret hlk X0 e0 hZ hh N0
  show own_Fin p e below _ s₁ (mkF m 0 #[SI p1] [])
  refine own_go (fun _ k => XS.iloadN X0.here hx rfl (hb hby d16_0) rfl (XS.ifNo X0.here hx rfl (hb hby d16_1) rfl ((if0 _ _).trans (flt f2).1) (XS.iloadN X0.here hx rfl (hb hby d16_4) rfl (XS.sipush X0.here hx rfl (hb hby d16_5) (XS.icmpNo X0.here hx rfl (hb hby d16_8) rfl (flt f3).2.2.1 (XS.iconst X0.here hx rfl (hb hby d16_11) (XS.goto X0.here hx rfl (pc0 := 12) (pc' := 16) rfl (hb hby d16_12) (by decide) (by decide) k))))))) ?_
  show own_Fin p e below _ s₁ (mkF m 16 #[SI p1] [VI 1])
  obtain ⟨fs, hr, hrun, hended, hW, hsame⟩ := X0.leave (v := some (.int (1 : Int32))) (fun h => by rw [hret] at h; cases h)
  refine own_end (retN X0 hx (t := .boolean) hret (by simp) (hb hby d16_16) hr) hrun hended ⟨_, _, rfl, ?_, ⟨_, rfl⟩, hW, hsame.mono (by decide) (by decide)⟩
  show Q16_1 Z p1 h0 n0 _ s₁.heap _
  rw [e0]
  exact ⟨rfl, N0, rfl⟩
theorem ef17_1 (m : MethodId) (p1 : Int32) (p2 : Int32) : entryFrame m #[(.int p1), (.int p2)] 2 = mkF m 0 #[SI p1, SI p2] [] := by first | (simp [entryFrame, mkF, argsToLocals, Value.category]; done) | rfl
def Q17_1 (Z : State) (p1 : Int32) (p2 : Int32) (h0 : Heap) (n0 : Nat) (v : Option Value) (h : Heap) (L : List Loc) : Prop := v = some (.int p1) ∧ Fr n0 L ∧ h = h0
set_option maxRecDepth 65536 in
set_option maxHeartbeats 40000000 in
theorem rm17_1 (l : Launch) (Z : State) (a0 : Array Value) (hw : HW a0 Z) (ws : List Jvm.Cond) (p1 : Int32) (p2 : Int32) (h0 : Heap) (n0 : Nat) (Z0 : n0 ≤ h0.size) (f3 : ¬ (p1 < p2)) :
    MetFree l yM12 (head1 (Jvm.Cond.code yM12 jdk_29_method_65_code 2 (some .int) :: ws) ({ frames := 0, cells := 0, slots := 0, locals := 0 } : Room)) (fun a U => a = #[(.int p1), (.int p2)] ∧ Z.Warmed39 U.vm ∧ U.heap = h0) (fun _ _ _ _ _ => True) (fun _ U o U' => ∃ v L, o = .returned v ∧ Q17_1 Z p1 p2 h0 n0 v U'.heap L ∧ FrameEnd U o U' L ({ frames := 0, cells := 0, slots := 0, locals := 0 } : Room).cells ({ frames := 0, cells := 0, slots := 0, locals := 0 } : Room).slots) := by
  refine own_enter (n0 := n0) (Jvm.Free.JP.mathPlain rfl (by decide +kernel)) (fun m => ef17_1 m p1 p2) ?_
  intro p e s m below meth c s₁ hx hby hml hown hnm hret hlk X0 e0 hZ hh N0
  show own_Fin p e below _ s₁ (mkF m 0 #[SI p1, SI p2] [])
  refine own_go (fun _ k => XS.iloadN X0.here hx rfl (hb hby d17_0) rfl (XS.iloadN X0.here hx rfl (hb hby d17_1) rfl (XS.icmpNo X0.here hx rfl (hb hby d17_2) rfl (flt f3).1 (XS.iloadN X0.here hx rfl (hb hby d17_5) rfl (XS.goto X0.here hx rfl (pc0 := 6) (pc' := 10) rfl (hb hby d17_6) (by decide) (by decide) k))))) ?_
  show own_Fin p e below _ s₁ (mkF m 10 #[SI p1, SI p2] [VI p1])
  obtain ⟨fs, hr, hrun, hended, hW, hsame⟩ := X0.leave (v := some (.int p1)) (fun h => by rw [hret] at h; cases h)
  refine own_end (retOut X0 hx hret rfl (Or.inl ⟨rfl, Or.inl rfl, _, rfl⟩) (hb hby d17_10) hr) hrun hended ⟨_, _, rfl, ?_, ⟨_, rfl⟩, hW, hsame.mono (by decide) (by decide)⟩
  show Q17_1 Z p1 p2 h0 n0 _ s₁.heap _
  rw [e0]
  exact ⟨rfl, N0, rfl⟩
theorem ef18_1 (m : MethodId) (p1 : Int32) (p2 : Int32) : entryFrame m #[(.int p1), (.int p2)] 2 = mkF m 0 #[SI p1, SI p2] [] := by first | (simp [entryFrame, mkF, argsToLocals, Value.category]; done) | rfl
def Q18_1 (Z : State) (p1 : Int32) (p2 : Int32) (h0 : Heap) (n0 : Nat) (v : Option Value) (h : Heap) (L : List Loc) : Prop := v = some (.int p1) ∧ Fr n0 L ∧ h = h0
set_option maxRecDepth 65536 in
set_option maxHeartbeats 40000000 in
theorem rm18_1 (l : Launch) (Z : State) (a0 : Array Value) (hw : HW a0 Z) (ws : List Jvm.Cond) (p1 : Int32) (p2 : Int32) (h0 : Heap) (n0 : Nat) (Z0 : n0 ≤ h0.size) (f3 : ¬ (p2 < p1)) :
    MetFree l yM13 (head1 (Jvm.Cond.code yM13 jdk_29_method_69_code 2 (some .int) :: ws) ({ frames := 0, cells := 0, slots := 0, locals := 0 } : Room)) (fun a U => a = #[(.int p1), (.int p2)] ∧ Z.Warmed39 U.vm ∧ U.heap = h0) (fun _ _ _ _ _ => True) (fun _ U o U' => ∃ v L, o = .returned v ∧ Q18_1 Z p1 p2 h0 n0 v U'.heap L ∧ FrameEnd U o U' L ({ frames := 0, cells := 0, slots := 0, locals := 0 } : Room).cells ({ frames := 0, cells := 0, slots := 0, locals := 0 } : Room).slots) := by
  refine own_enter (n0 := n0) (Jvm.Free.JP.mathPlain rfl (by decide +kernel)) (fun m => ef18_1 m p1 p2) ?_
  intro p e s m below meth c s₁ hx hby hml hown hnm hret hlk X0 e0 hZ hh N0
  show own_Fin p e below _ s₁ (mkF m 0 #[SI p1, SI p2] [])
  refine own_go (fun _ k => XS.iloadN X0.here hx rfl (hb hby d18_0) rfl (XS.iloadN X0.here hx rfl (hb hby d18_1) rfl (XS.icmpNo X0.here hx rfl (hb hby d18_2) rfl (flt f3).2.2.1 (XS.iloadN X0.here hx rfl (hb hby d18_5) rfl (XS.goto X0.here hx rfl (pc0 := 6) (pc' := 10) rfl (hb hby d18_6) (by decide) (by decide) k))))) ?_
  show own_Fin p e below _ s₁ (mkF m 10 #[SI p1, SI p2] [VI p1])
  obtain ⟨fs, hr, hrun, hended, hW, hsame⟩ := X0.leave (v := some (.int p1)) (fun h => by rw [hret] at h; cases h)
  refine own_end (retOut X0 hx hret rfl (Or.inl ⟨rfl, Or.inl rfl, _, rfl⟩) (hb hby d18_10) hr) hrun hended ⟨_, _, rfl, ?_, ⟨_, rfl⟩, hW, hsame.mono (by decide) (by decide)⟩
  show Q18_1 Z p1 p2 h0 n0 _ s₁.heap _
  rw [e0]
  exact ⟨rfl, N0, rfl⟩
theorem ef15_1 (m : MethodId) (a1 : Addr) (p2 : Int32) (p3 : Int32) (p4 : Int32) : entryFrame m #[(.ref a1), (.int p2), (.int p3), (.int p4)] 4 = mkF m 0 #[SR a1, SI p2, SI p3, SI p4] [] := by first | (simp [entryFrame, mkF, argsToLocals, Value.category]; done) | rfl
def Q15_1 (Z : State) (a1 : Addr) (p2 : Int32) (p3 : Int32) (p4 : Int32) (k10 : ClassId) (h0 : Heap) (n0 : Nat) (v : Option Value) (h : Heap) (L : List Loc) : Prop := v = some (.int (-1 : Int32)) ∧ Fr n0 L ∧ h = h0
set_option maxRecDepth 65536 in
set_option maxHeartbeats 40000000 in
theorem rm15_1 (l : Launch) (Z : State) (a0 : Array Value) (hw : HW a0 Z) (ws : List Jvm.Cond) (a1 : Addr) (p2 : Int32) (p3 : Int32) (p4 : Int32) (k10 : ClassId) (h0 : Heap) (n0 : Nat) (Z0 : n0 ≤ h0.size) (f5 : ¬ (p2 < (0 : Int32))) (f6 : ¬ ((255 : Int32) < p2)) (f8 : ¬ (p3 < (0 : Int32))) (f11 : Arv Z h0 a1 k10 .byte 0 [] (VI 0)) (f13 : ¬ ((0 : Int32) < p4)) (f15 : ¬ (p3 < p4)) :
    MetFree l yM14 (head1 (Jvm.Cond.code yM14 jdk_43_method_22_code 4 (some .int) :: ws) ({ frames := 1, cells := 0, slots := 0, locals := 13 } : Room)) (fun a U => a = #[(.ref a1), (.int p2), (.int p3), (.int p4)] ∧ Z.Warmed39 U.vm ∧ U.heap = h0) (fun _ _ _ _ _ => True) (fun _ U o U' => ∃ v L, o = .returned v ∧ Q15_1 Z a1 p2 p3 p4 k10 h0 n0 v U'.heap L ∧ FrameEnd U o U' L ({ frames := 1, cells := 0, slots := 0, locals := 13 } : Room).cells ({ frames := 1, cells := 0, slots := 0, locals := 13 } : Room).slots) := by
  refine own_enter (n0 := n0) (plainFor_of_name pn15) (fun m => ef15_1 m a1 p2 p3 p4) ?_
  intro p e s m below meth c s₁ hx hby hml hown hnm hret hlk X0 e0 hZ hh N0
  show own_Fin p e below _ s₁ (mkF m 0 #[SR a1, SI p2, SI p3, SI p4] [])
  refine own_go (fun _ k => XS.iloadN X0.here hx rfl (hb hby d15_0) rfl k) ?_
  show own_Fin p e below _ s₁ (mkF m 1 #[SR a1, SI p2, SI p3, SI p4] [VI p2])
  obtain ⟨_, T7, L7, X7, hQ7, st7⟩ := own_cS X0 hx hZ hown (WW hw 87) (WW hw 88) (WW hw 85) (WW hw 89) (rm16_1 l Z a0 hw [] p2 h0 n0 Z0 f5 f6) e0 hml (g := (mkF m 1 #[SR a1, SI p2, SI p3, SI p4] [VI p2])) pd7 (hb hby d15_1) [VI p2] [] (W := 0)
  obtain ⟨rfl, N7q, e7⟩ := hQ7
  have N7 := Fr.app N0 N7q
  refine own_go st7 ?_
  show own_Fin p e below _ T7 (mkF m 4 #[SR a1, SI p2, SI p3, SI p4] [VI 1])
  refine own_go (fun _ k => XS.ifYes X7.here hx rfl (pc0 := 4) (pc' := 9) rfl (hb hby d15_4) rfl ((if0 _ _).trans (feq (by decide : ¬ ((1 : Int32) = (0 : Int32)))).2) (by decide) (by decide) (XS.iloadN X7.here hx rfl (hb hby d15_9) rfl (XS.iconst X7.here hx rfl (hb hby d15_10) k))) ?_
  show own_Fin p e below _ T7 (mkF m 11 #[SR a1, SI p2, SI p3, SI p4] [VI 0, VI p3])
  obtain ⟨_, T9, L9, X9, hQ9, st9⟩ := own_cS X7 hx hZ hown (WW hw 90) (WW hw 91) (WW hw 92) (WW hw 93) (rm17_1 l Z a0 hw [] p3 (0 : Int32) h0 n0 Z0 f8) e7 hml (g := (mkF m 11 #[SR a1, SI p2, SI p3, SI p4] [VI 0, VI p3])) pd11 (hb hby d15_11) [VI p3, VI 0] [] (W := 0)
  obtain ⟨rfl, N9q, e9⟩ := hQ9
  have N9 := Fr.app N7 N9q
  refine own_go st9 ?_
  show own_Fin p e below _ T9 (mkF m 14 #[SR a1, SI p2, SI p3, SI p4] [VI p3])
  refine own_go (fun _ k => XS.istoreN X9.here hx rfl (hb hby d15_14) rfl (l' := #[SR a1, SI p2, SI p3, SI p4]) rfl (XS.iloadN X9.here hx rfl (hb hby d15_15) rfl (XS.aloadN X9.here hx rfl (hb hby d15_16) rfl rfl k))) ?_
  show own_Fin p e below _ T9 (mkF m 17 #[SR a1, SI p2, SI p3, SI p4] [VR a1, VI p4])
  obtain ⟨cl12, Ar12, q12, Sz12, Nn12, Hs12, Gg12⟩ := id f11
  refine own_go (fun _ k => X9.arraylength hx (by rw [e9]; exact Ar12.1) (State.isArrayOf_alike hZ.alike Ar12.2.1) (g := (mkF m 17 #[SR a1, SI p2, SI p3, SI p4] [VR a1, VI p4])) rfl rfl (hb hby d15_17) _ k) ?_
  rw [len_of Sz12 Nn12]
  show own_Fin p e below _ T9 (mkF m 18 #[SR a1, SI p2, SI p3, SI p4] [VI 0, VI p4])
  obtain ⟨_, T14, L14, X14, hQ14, st14⟩ := own_cS X9 hx hZ hown (WW hw 94) (WW hw 95) (WW hw 92) (WW hw 96) (rm18_1 l Z a0 hw [] p4 (0 : Int32) h0 n0 Z0 f13) e9 hml (g := (mkF m 18 #[SR a1, SI p2, SI p3, SI p4] [VI 0, VI p4])) pd11 (hb hby d15_18) [VI p4, VI 0] [] (W := 0)
  obtain ⟨rfl, N14q, e14⟩ := hQ14
  have N14 := Fr.app N9 N14q
  refine own_go st14 ?_
  show own_Fin p e below _ T14 (mkF m 21 #[SR a1, SI p2, SI p3, SI p4] [VI p4])
  refine own_go (fun _ k => XS.istoreN X14.here hx rfl (hb hby d15_21) rfl (l' := #[SR a1, SI p2, SI p3, SI p4]) rfl (XS.iloadN X14.here hx rfl (hb hby d15_22) rfl (XS.iloadN X14.here hx rfl (hb hby d15_23) rfl (XS.icmpNo X14.here hx rfl (hb hby d15_24) rfl (flt f15).1 (XS.iconst X14.here hx rfl (hb hby d15_27) k))))) ?_
  show own_Fin p e below _ T14 (mkF m 28 #[SR a1, SI p2, SI p3, SI p4] [VI (-1)])
  obtain ⟨fs, hr, hrun, hended, hW, hsame⟩ := X14.leave (v := some (.int (-1 : Int32))) (fun h => by rw [hret] at h; cases h)
  refine own_end (retOut X14 hx hret rfl (Or.inl ⟨rfl, Or.inl rfl, _, rfl⟩) (hb hby d15_28) hr) hrun hended ⟨_, _, rfl, ?_, ⟨_, rfl⟩, hW, hsame.mono (by decide) (by decide)⟩
  show Q15_1 Z a1 p2 p3 p4 k10 h0 n0 _ T14.heap _
  rw [e14]
  exact ⟨rfl, N14, rfl⟩
theorem ef11_1 (m : MethodId) (a1 : Addr) (p2 : Int32) (p3 : Int32) : entryFrame m #[(.ref a1), (.int p2), (.int p3)] 3 = mkF m 0 #[SR a1, SI p2, SI p3] [] := by first | (simp [entryFrame, mkF, argsToLocals, Value.category]; done) | rfl
def Q11_1 (Z : State) (a1 : Addr) (p2 : Int32) (p3 : Int32) (p5 : Int32) (a11 : Addr) (k14 : ClassId) (h0 : Heap) (n0 : Nat) (v : Option Value) (h : Heap) (L : List Loc) : Prop := v = some (.int (-1 : Int32)) ∧ Fr n0 L ∧ h = h0
set_option maxRecDepth 65536 in
set_option maxHeartbeats 40000000 in
theorem rm11_1 (l : Launch) (Z : State) (a0 : Array Value) (hw : HW a0 Z) (ws : List Jvm.Cond) (a1 : Addr) (p2 : Int32) (p3 : Int32) (p5 : Int32) (a11 : Addr) (k14 : ClassId) (h0 : Heap) (n0 : Nat) (Z0 : n0 ≤ h0.size) (f4 : Exa Z h0 a1 cC3) (f6 : Sta Z Z.heap "java/lang/String" "COMPACT_STRINGS" "Z" (.int p5)) (f7 : Old Z n0 h0) (f8 : ¬ (p5 = (0 : Int32))) (f9 : Fld Z h0 a1 cC3 "coder" "B" (VI 0)) (f12 : Fld Z h0 a1 cC3 "value" "[B" (VR a11)) (f15 : Arv Z h0 a11 k14 .byte 0 [] (VI 0)) (f17 : ¬ (p2 < (0 : Int32))) (f18 : ¬ ((255 : Int32) < p2)) (f19 : ¬ (p3 < (0 : Int32))) :
    MetFree l yM15 (head1 (Jvm.Cond.code yM15 jdk_42_method_80_code 3 (some .int) :: ws) ({ frames := 2, cells := 0, slots := 0, locals := 28 } : Room)) (fun a U => a = #[(.ref a1), (.int p2), (.int p3)] ∧ Z.Warmed39 U.vm ∧ U.heap = h0) (fun _ _ _ _ _ => True) (fun _ U o U' => ∃ v L, o = .returned v ∧ Q11_1 Z a1 p2 p3 p5 a11 k14 h0 n0 v U'.heap L ∧ FrameEnd U o U' L ({ frames := 2, cells := 0, slots := 0, locals := 28 } : Room).cells ({ frames := 2, cells := 0, slots := 0, locals := 28 } : Room).slots) := by
  refine own_enter (n0 := n0) (plainFor_of_name pn3) (fun m => ef11_1 m a1 p2 p3) ?_
  intro p e s m below meth c s₁ hx hby hml hown hnm hret hlk X0 e0 hZ hh N0
  show own_Fin p e below _ s₁ (mkF m 0 #[SR a1, SI p2, SI p3] [])
  refine own_go (fun _ k => XS.aloadN X0.here hx rfl (hb hby d11_0) rfl rfl k) ?_
  show own_Fin p e below _ s₁ (mkF m 1 #[SR a1, SI p2, SI p3] [VR a1])
  obtain ⟨_, T10, L10, X10, hQ10, st10⟩ := own_cV X0 hx hZ hown (WW hw 67) (WW hw 68) (notFace_of_selects (args := #[]) (mvT hZ (WW hw 70))) (WW hw 70) (WW hw 69) (WW hw 12) (WW hw 71) (rm12_1 l Z a0 hw [] a1 p5 h0 n0 Z0 f6 f7 f8 f9) e0 f4 hml (g := (mkF m 1 #[SR a1, SI p2, SI p3] [VR a1])) pd8 (hb hby d11_1) [] [] (W := 0)
  obtain ⟨rfl, N10q, e10⟩ := hQ10
  have N10 := Fr.app N0 N10q
  refine own_go st10 ?_
  show own_Fin p e below _ T10 (mkF m 4 #[SR a1, SI p2, SI p3] [VI 1])
  refine own_go (fun _ k => XS.ifNo X10.here hx rfl (hb hby d11_4) rfl ((if0 _ _).trans (feq (by decide : ¬ ((1 : Int32) = (0 : Int32)))).1) (XS.aloadN X10.here hx rfl (hb hby d11_7) rfl rfl k)) ?_
  show own_Fin p e below _ T10 (mkF m 8 #[SR a1, SI p2, SI p3] [VR a1])
  obtain ⟨T13, X13, e13, st13⟩ := getF X10 hx hZ hown (host := "") (Or.inl (WW hw 30)) Via.refl e10 f12 (g := (mkF m 8 #[SR a1, SI p2, SI p3] [VR a1])) rfl rfl (hb hby d11_8)
  refine own_go st13 ?_
  show own_Fin p e below _ T13 (mkF m 11 #[SR a1, SI p2, SI p3] [VR a11])
  refine own_go (fun _ k => XS.iloadN X13.here hx rfl (hb hby d11_11) rfl (XS.iloadN X13.here hx rfl (hb hby d11_12) rfl (XS.aloadN X13.here hx rfl (hb hby d11_13) rfl rfl k))) ?_
  show own_Fin p e below _ T13 (mkF m 14 #[SR a1, SI p2, SI p3] [VR a1, VI p3, VI p2, VR a11])
  obtain ⟨_, T16, L16, X16, hQ16, st16⟩ := own_cV X13 hx hZ hown (WW hw 73) (WW hw 74) (notFace_of_selects (args := #[]) (mvT hZ (WW hw 76))) (WW hw 76) (WW hw 75) (WW hw 12) (WW hw 77) (rm13_1 l Z a0 hw [] a1 a11 k14 p5 h0 n0 Z0 f12 f15 f4 f6 f7 f8 f9) e13 f4 hml (g := (mkF m 14 #[SR a1, SI p2, SI p3] [VR a1, VI p3, VI p2, VR a11])) pd10 (hb hby d11_14) [] [VI p3, VI p2, VR a11] (W := 3)
  obtain ⟨rfl, N16q, e16⟩ := hQ16
  have N16 := Fr.app N10 N16q
  refine own_go st16 ?_
  show own_Fin p e below _ T16 (mkF m 17 #[SR a1, SI p2, SI p3] [VI 0, VI p3, VI p2, VR a11])
  obtain ⟨_, T20, L20, X20, hQ20, st20⟩ := own_cS X16 hx hZ hown (WW hw 83) (WW hw 84) (WW hw 85) (WW hw 86) (rm15_1 l Z a0 hw [] a11 p2 p3 (0 : Int32) k14 h0 n0 Z0 f17 f18 f19 f15 (by decide : ¬ ((0 : Int32) < (0 : Int32))) f19) e16 hml (g := (mkF m 17 #[SR a1, SI p2, SI p3] [VI 0, VI p3, VI p2, VR a11])) pd12 (hb hby d11_17) [VR a11, VI p2, VI p3, VI 0] [] (W := 0)
  obtain ⟨rfl, N20q, e20⟩ := hQ20
  have N20 := Fr.app N16 N20q
  refine own_go st20 ?_
  show own_Fin p e below _ T20 (mkF m 20 #[SR a1, SI p2, SI p3] [VI (-1)])
  refine own_go (fun _ k => XS.goto X20.here hx rfl (pc0 := 20) (pc' := 36) rfl (hb hby d11_20) (by decide) (by decide) k) ?_
  show own_Fin p e below _ T20 (mkF m 36 #[SR a1, SI p2, SI p3] [VI (-1)])
  obtain ⟨fs, hr, hrun, hended, hW, hsame⟩ := X20.leave (v := some (.int (-1 : Int32))) (fun h => by rw [hret] at h; cases h)
  refine own_end (retOut X20 hx hret rfl (Or.inl ⟨rfl, Or.inl rfl, _, rfl⟩) (hb hby d11_36) hr) hrun hended ⟨_, _, rfl, ?_, ⟨_, rfl⟩, hW, hsame.mono (by decide) (by decide)⟩
  show Q11_1 Z a1 p2 p3 p5 a11 k14 h0 n0 _ T20.heap _
  rw [e20]
  exact ⟨rfl, N20, rfl⟩
theorem ef10_1 (m : MethodId) (a1 : Addr) (p2 : Int32) : entryFrame m #[(.ref a1), (.int p2)] 2 = mkF m 0 #[SR a1, SI p2] [] := by first | (simp [entryFrame, mkF, argsToLocals, Value.category]; done) | rfl
def Q10_1 (Z : State) (a1 : Addr) (p2 : Int32) (p4 : Int32) (a9 : Addr) (k11 : ClassId) (h0 : Heap) (n0 : Nat) (v : Option Value) (h : Heap) (L : List Loc) : Prop := v = some (.int (-1 : Int32)) ∧ Fr n0 L ∧ h = h0
set_option maxRecDepth 65536 in
set_option maxHeartbeats 40000000 in
theorem rm10_1 (l : Launch) (Z : State) (a0 : Array Value) (hw : HW a0 Z) (ws : List Jvm.Cond) (a1 : Addr) (p2 : Int32) (p4 : Int32) (a9 : Addr) (k11 : ClassId) (h0 : Heap) (n0 : Nat) (Z0 : n0 ≤ h0.size) (f3 : Exa Z h0 a1 cC3) (f5 : Sta Z Z.heap "java/lang/String" "COMPACT_STRINGS" "Z" (.int p4)) (f6 : Old Z n0 h0) (f7 : ¬ (p4 = (0 : Int32))) (f8 : Fld Z h0 a1 cC3 "coder" "B" (VI 0)) (f10 : Fld Z h0 a1 cC3 "value" "[B" (VR a9)) (f12 : Arv Z h0 a9 k11 .byte 0 [] (VI 0)) (f13 : ¬ (p2 < (0 : Int32))) (f14 : ¬ ((255 : Int32) < p2)) :
    MetFree l yM16 (head1 (Jvm.Cond.code yM16 jdk_42_method_79_code 2 (some .int) :: ws) ({ frames := 3, cells := 0, slots := 0, locals := 42 } : Room)) (fun a U => a = #[(.ref a1), (.int p2)] ∧ Z.Warmed39 U.vm ∧ U.heap = h0) (fun _ _ _ _ _ => True) (fun _ U o U' => ∃ v L, o = .returned v ∧ Q10_1 Z a1 p2 p4 a9 k11 h0 n0 v U'.heap L ∧ FrameEnd U o U' L ({ frames := 3, cells := 0, slots := 0, locals := 42 } : Room).cells ({ frames := 3, cells := 0, slots := 0, locals := 42 } : Room).slots) := by
  refine own_enter (n0 := n0) (plainFor_of_name pn3) (fun m => ef10_1 m a1 p2) ?_
  intro p e s m below meth c s₁ hx hby hml hown hnm hret hlk X0 e0 hZ hh N0
  show own_Fin p e below _ s₁ (mkF m 0 #[SR a1, SI p2] [])
  refine own_go (fun _ k => XS.aloadN X0.here hx rfl (hb hby d10_0) rfl rfl (XS.iloadN X0.here hx rfl (hb hby d10_1) rfl (XS.iconst X0.here hx rfl (hb hby d10_2) k))) ?_
  show own_Fin p e below _ s₁ (mkF m 3 #[SR a1, SI p2] [VI 0, VI p2, VR a1])
  obtain ⟨_, T15, L15, X15, hQ15, st15⟩ := own_cV X0 hx hZ hown (WW hw 62) (WW hw 63) (notFace_of_selects (args := #[]) (mvT hZ (WW hw 65))) (WW hw 65) (WW hw 64) (WW hw 12) (WW hw 66) (rm11_1 l Z a0 hw [] a1 p2 (0 : Int32) p4 a9 k11 h0 n0 Z0 f3 f5 f6 f7 f8 f10 f12 f13 f14 (by decide : ¬ ((0 : Int32) < (0 : Int32)))) e0 f3 hml (g := (mkF m 3 #[SR a1, SI p2] [VI 0, VI p2, VR a1])) pd11 (hb hby d10_3) [VI p2, VI 0] [] (W := 0)
  obtain ⟨rfl, N15q, e15⟩ := hQ15
  have N15 := Fr.app N0 N15q
  refine own_go st15 ?_
  show own_Fin p e below _ T15 (mkF m 6 #[SR a1, SI p2] [VI (-1)])
  obtain ⟨fs, hr, hrun, hended, hW, hsame⟩ := X15.leave (v := some (.int (-1 : Int32))) (fun h => by rw [hret] at h; cases h)
  refine own_end (retOut X15 hx hret rfl (Or.inl ⟨rfl, Or.inl rfl, _, rfl⟩) (hb hby d10_6) hr) hrun hended ⟨_, _, rfl, ?_, ⟨_, rfl⟩, hW, hsame.mono (by decide) (by decide)⟩
  show Q10_1 Z a1 p2 p4 a9 k11 h0 n0 _ T15.heap _
  rw [e15]
  exact ⟨rfl, N15, rfl⟩
theorem ef9_1 (m : MethodId) (a1 : Addr) : entryFrame m #[(.ref a1)] 1 = mkF m 0 #[SR a1] [] := by first | (simp [entryFrame, mkF, argsToLocals, Value.category]; done) | rfl
def Q9_1 (Z : State) (a1 : Addr) (a2 : Addr) (p6 : Int32) (a11 : Addr) (k13 : ClassId) (a16 : Addr) (a21 : Addr) (k23 : ClassId) (h0 : Heap) (n0 : Nat) (v : Option Value) (h : Heap) (L : List Loc) : Prop := v = some (.int (1 : Int32)) ∧ Fr n0 L ∧ h = h0
set_option maxRecDepth 65536 in
set_option maxHeartbeats 40000000 in
theorem rm9_1 (l : Launch) (Z : State) (a0 : Array Value) (hw : HW a0 Z) (ws : List Jvm.Cond) (a1 : Addr) (a2 : Addr) (p6 : Int32) (a11 : Addr) (k13 : ClassId) (a16 : Addr) (a21 : Addr) (k23 : ClassId) (h0 : Heap) (n0 : Nat) (Z0 : n0 ≤ h0.size) (f3 : Fld Z h0 a1 cC0 "article" cC1 (VR a2)) (f5 : Exa Z h0 a2 cC3) (f7 : Sta Z Z.heap "java/lang/String" "COMPACT_STRINGS" "Z" (.int p6)) (f8 : Old Z n0 h0) (f9 : ¬ (p6 = (0 : Int32))) (f10 : Fld Z h0 a2 cC3 "coder" "B" (VI 0)) (f12 : Fld Z h0 a2 cC3 "value" "[B" (VR a11)) (f14 : Arv Z h0 a11 k13 .byte 0 [] (VI 0)) (f17 : Fld Z h0 a1 cC0 "clause" cC1 (VR a16)) (f19 : Exa Z h0 a16 cC3) (f20 : Fld Z h0 a16 cC3 "coder" "B" (VI 0)) (f22 : Fld Z h0 a16 cC3 "value" "[B" (VR a21)) (f24 : Arv Z h0 a21 k23 .byte 0 [] (VI 0)) :
    MetFree l yM17 (head1 (Jvm.Cond.code yM17 prog_105_method_2_code 1 (some .boolean) :: ws) ({ frames := 4, cells := 0, slots := 0, locals := 55 } : Room)) (fun a U => a = #[(.ref a1)] ∧ Z.Warmed39 U.vm ∧ U.heap = h0) (fun _ _ _ _ _ => True) (fun _ U o U' => ∃ v L, o = .returned v ∧ Q9_1 Z a1 a2 p6 a11 k13 a16 a21 k23 h0 n0 v U'.heap L ∧ FrameEnd U o U' L ({ frames := 4, cells := 0, slots := 0, locals := 55 } : Room).cells ({ frames := 4, cells := 0, slots := 0, locals := 55 } : Room).slots) := by
  refine own_enter (n0 := n0) (plainFor_of_name pn6) (fun m => ef9_1 m a1) ?_
  intro p e s m below meth c s₁ hx hby hml hown hnm hret hlk X0 e0 hZ hh N0
  show own_Fin p e below _ s₁ (mkF m 0 #[SR a1] [])
  refine own_go (fun _ k => XS.aloadN X0.here hx rfl (hb hby d9_0) rfl rfl k) ?_
  show own_Fin p e below _ s₁ (mkF m 1 #[SR a1] [VR a1])
  obtain ⟨T4, X4, e4, st4⟩ := getF X0 hx hZ hown (host := "") (Or.inl (WW hw 43)) Via.refl e0 f3 (g := (mkF m 1 #[SR a1] [VR a1])) rfl rfl (hb hby d9_1)
  refine own_go st4 ?_
  show own_Fin p e below _ T4 (mkF m 4 #[SR a1] [VR a2])
  refine own_go (fun _ k => XS.bipush X4.here hx rfl (hb hby d9_4) k) ?_
  show own_Fin p e below _ T4 (mkF m 6 #[SR a1] [VI 63, VR a2])
  obtain ⟨_, T15, L15, X15, hQ15, st15⟩ := own_cV X4 hx hZ hown (WW hw 57) (WW hw 58) (notFace_of_selects (args := #[]) (mvT hZ (WW hw 60))) (WW hw 60) (WW hw 59) (WW hw 12) (WW hw 61) (rm10_1 l Z a0 hw [] a2 (63 : Int32) p6 a11 k13 h0 n0 Z0 f5 f7 f8 f9 f10 f12 f14 (by decide : ¬ ((63 : Int32) < (0 : Int32))) (by decide : ¬ ((255 : Int32) < (63 : Int32)))) e4 f5 hml (g := (mkF m 6 #[SR a1] [VI 63, VR a2])) pd0 (hb hby d9_6) [VI 63] [] (W := 0)
  obtain ⟨rfl, N15q, e15⟩ := hQ15
  have N15 := Fr.app N0 N15q
  refine own_go st15 ?_
  show own_Fin p e below _ T15 (mkF m 9 #[SR a1] [VI (-1)])
  refine own_go (fun _ k => XS.ifNo X15.here hx rfl (hb hby d9_9) rfl ((if0 _ _).trans (tlt (by decide : (-1 : Int32) < (0 : Int32))).2.1) (XS.aloadN X15.here hx rfl (hb hby d9_12) rfl rfl k)) ?_
  show own_Fin p e below _ T15 (mkF m 13 #[SR a1] [VR a1])
  obtain ⟨T18, X18, e18, st18⟩ := getF X15 hx hZ hown (host := "") (Or.inl (WW hw 45)) Via.refl e15 f17 (g := (mkF m 13 #[SR a1] [VR a1])) rfl rfl (hb hby d9_13)
  refine own_go st18 ?_
  show own_Fin p e below _ T18 (mkF m 16 #[SR a1] [VR a16])
  refine own_go (fun _ k => XS.bipush X18.here hx rfl (hb hby d9_16) k) ?_
  show own_Fin p e below _ T18 (mkF m 18 #[SR a1] [VI 63, VR a16])
  obtain ⟨_, T25, L25, X25, hQ25, st25⟩ := own_cV X18 hx hZ hown (WW hw 57) (WW hw 58) (notFace_of_selects (args := #[]) (mvT hZ (WW hw 60))) (WW hw 60) (WW hw 59) (WW hw 12) (WW hw 61) (rm10_1 l Z a0 hw [] a16 (63 : Int32) p6 a21 k23 h0 n0 Z0 f19 f7 f8 f9 f20 f22 f24 (by decide : ¬ ((63 : Int32) < (0 : Int32))) (by decide : ¬ ((255 : Int32) < (63 : Int32)))) e18 f19 hml (g := (mkF m 18 #[SR a1] [VI 63, VR a16])) pd0 (hb hby d9_18) [VI 63] [] (W := 0)
  obtain ⟨rfl, N25q, e25⟩ := hQ25
  have N25 := Fr.app N15 N25q
  refine own_go st25 ?_
  show own_Fin p e below _ T25 (mkF m 21 #[SR a1] [VI (-1)])
  refine own_go (fun _ k => XS.ifNo X25.here hx rfl (hb hby d9_21) rfl ((if0 _ _).trans (tlt (by decide : (-1 : Int32) < (0 : Int32))).2.1) (XS.iconst X25.here hx rfl (hb hby d9_24) (XS.goto X25.here hx rfl (pc0 := 25) (pc' := 29) rfl (hb hby d9_25) (by decide) (by decide) k))) ?_
  show own_Fin p e below _ T25 (mkF m 29 #[SR a1] [VI 1])
  obtain ⟨fs, hr, hrun, hended, hW, hsame⟩ := X25.leave (v := some (.int (1 : Int32))) (fun h => by rw [hret] at h; cases h)
  refine own_end (retN X25 hx (t := .boolean) hret (by simp) (hb hby d9_29) hr) hrun hended ⟨_, _, rfl, ?_, ⟨_, rfl⟩, hW, hsame.mono (by decide) (by decide)⟩
  show Q9_1 Z a1 a2 p6 a11 k13 a16 a21 k23 h0 n0 _ T25.heap _
  rw [e25]
  exact ⟨rfl, N25, rfl⟩
theorem ef1_3 (m : MethodId) (p1 : Int32) : entryFrame m #[(.int p1)] 2 = mkF m 0 #[SI p1, SU] [] := by first | (simp [entryFrame, mkF, argsToLocals, Value.category]; done) | rfl
def Q1_3 (Z : State) (p1 : Int32) (p21 : Int32) (h0 : Heap) (n0 : Nat) (v : Option Value) (h : Heap) (L : List Loc) : Prop := ∃ (b5 : Addr) (t16 : Addr) (kb16 : ClassId), v = some (.ref b5) ∧ Fr n0 L ∧ Keep h0 h [] ∧ h0.size ≤ b5 ∧ h0.size ≤ t16 ∧ b5 ≠ t16 ∧ Exa Z h b5 cC3 ∧ Fld Z h b5 cC3 "coder" "B" (VI 0) ∧ Fld Z h b5 cC3 "value" "[B" (VR t16) ∧ Arv Z h t16 kb16 .byte 1 [VI ((nar .char (own_f19_m4 p1)).toInt8.toInt32)] (VI 0)
set_option maxRecDepth 65536 in
set_option maxHeartbeats 40000000 in
theorem rm1_3 (l : Launch) (Z : State) (a0 : Array Value) (hw : HW a0 Z) (ws : List Jvm.Cond) (p1 : Int32) (p21 : Int32) (h0 : Heap) (n0 : Nat) (Z0 : n0 ≤ h0.size) (f3 : ¬ ((((p1.toUInt32 >>> ((24 : Int32) &&& 31).toUInt32).toInt32) &&& (3 : Int32)) = (0 : Int32))) (f4 : (((p1.toUInt32 >>> ((24 : Int32) &&& 31).toUInt32).toInt32) &&& (3 : Int32)) = (1 : Int32)) (f22 : Sta Z Z.heap "java/lang/String" "COMPACT_STRINGS" "Z" (.int p21)) (f23 : Old Z n0 h0) (f25 : ¬ (p21 = (0 : Int32))) :
    MetFree l yM4 (head1 (Jvm.Cond.code yM4 method_5_code 2 (some (.object "java/lang/String")) :: ws) ({ frames := 4, cells := 3, slots := 6, locals := 66 } : Room)) (fun a U => a = #[(.int p1)] ∧ Z.Warmed39 U.vm ∧ U.heap = h0) (fun _ _ _ _ _ => True) (fun _ U o U' => ∃ v L, o = .returned v ∧ Q1_3 Z p1 p21 h0 n0 v U'.heap L ∧ FrameEnd U o U' L ({ frames := 4, cells := 3, slots := 6, locals := 66 } : Room).cells ({ frames := 4, cells := 3, slots := 6, locals := 66 } : Room).slots) := by
  refine own_enter (n0 := n0) (plainFor_of_name pn0) (fun m => ef1_3 m p1) ?_
  intro p e s m below meth c s₁ hx hby hml hown hnm hret hlk X0 e0 hZ hh N0
  show own_Fin p e below _ s₁ (mkF m 0 #[SI p1, SU] [])
  refine own_go (fun _ k => XS.iloadN X0.here hx rfl (hb hby d1_0) rfl k) ?_
  show own_Fin p e below _ s₁ (mkF m 1 #[SI p1, SU] [VI p1])
  obtain ⟨_, T2, L2, X2, hQ2, st2⟩ := own_cS X0 hx hZ hown (WW hw 7) (WW hw 8) (WW hw 5) (WW hw 9) (rm2_1 l Z a0 hw [] p1 h0 n0 Z0 ) e0 hml (g := (mkF m 1 #[SI p1, SU] [VI p1])) pd0 (hb hby d1_1) [VI p1] [] (W := 0)
  obtain ⟨rfl, N2q, e2⟩ := hQ2
  have N2 := Fr.app N0 N2q
  refine own_go st2 ?_
  show own_Fin p e below _ T2 (mkF m 4 #[SI p1, SU] [VI (((p1.toUInt32 >>> ((24 : Int32) &&& 31).toUInt32).toInt32) &&& (3 : Int32))])
  refine own_go (fun _ k => XS.istoreN X2.here hx rfl (hb hby d1_4) rfl (l' := #[SI p1, SI (((p1.toUInt32 >>> ((24 : Int32) &&& 31).toUInt32).toInt32) &&& (3 : Int32))]) rfl (XS.iloadN X2.here hx rfl (hb hby d1_5) rfl (XS.ifYes X2.here hx rfl (pc0 := 6) (pc' := 20) rfl (hb hby d1_6) rfl ((if0 _ _).trans (feq f3).2) (by decide) (by decide) (XS.iloadN X2.here hx rfl (hb hby d1_20) rfl (XS.iconst X2.here hx rfl (hb hby d1_21) (XS.icmpNo X2.here hx rfl (hb hby d1_22) rfl (teq f4).2 k)))))) ?_
  show own_Fin p e below _ T2 (mkF m 25 #[SI p1, SI (((p1.toUInt32 >>> ((24 : Int32) &&& 31).toUInt32).toInt32) &&& (3 : Int32))] [])
  obtain ⟨T5, h5, X5, e5, E5, A5, D5, -, st5⟩ := newO X2 hx hZ hown (WW hw 10) (WW hw 11) (WW hw 12) e2 (g := (mkF m 25 #[SI p1, SI (((p1.toUInt32 >>> ((24 : Int32) &&& 31).toUInt32).toInt32) &&& (3 : Int32))] [])) rfl (hb hby d1_25) (by decide) (by decide)
  obtain ⟨b5, g5⟩ : ∃ z, z = h0.size := ⟨_, rfl⟩
  rw [← g5] at A5 D5 st5
  have F6 : Fld Z h5 b5 cC3 "value" "[B" (.null) := D5 (Or.inr (WW hw 26)) (ty := (.array .byte)) (by decide)
  have F7 : Fld Z h5 b5 cC3 "coder" "B" (VI 0) := D5 (Or.inr (WW hw 27)) (ty := .byte) (by decide)
  refine own_go st5 ?_
  show own_Fin p e below _ T5 (mkF m 28 #[SI p1, SI (((p1.toUInt32 >>> ((24 : Int32) &&& 31).toUInt32).toInt32) &&& (3 : Int32))] [VR b5])
  refine own_go (fun _ k => XS.dup X5.here hx rfl (hb hby d1_28) rfl rfl (XS.iconst X5.here hx rfl (hb hby d1_29) k)) ?_
  show own_Fin p e below _ T5 (mkF m 30 #[SI p1, SI (((p1.toUInt32 >>> ((24 : Int32) &&& 31).toUInt32).toInt32) &&& (3 : Int32))] [VI 1, VR b5, VR b5])
  obtain ⟨T8, h8, k8, X8, e8, E8, A8, st8⟩ := newP X5 hx hZ (WW hw 13) e5 (g := (mkF m 30 #[SI p1, SI (((p1.toUInt32 >>> ((24 : Int32) &&& 31).toUInt32).toInt32) &&& (3 : Int32))] [VI 1, VR b5, VR b5])) rfl (hb hby d1_30) rfl (by decide) (cap := 1) (by decide) (by decide) (by decide) (by decide)
  obtain ⟨b8, g8⟩ : ∃ z, z = h5.size := ⟨_, rfl⟩
  rw [← g8] at A8 st8
  have V8 : Arv Z h8 b8 k8 .char 1 [VI 0] (VI 0) := (Arv.new A8 (by decide)).pad (pad_rep [] (.int (0 : Int32)) 1)
  refine own_go st8 ?_
  show own_Fin p e below _ T8 (mkF m 32 #[SI p1, SI (((p1.toUInt32 >>> ((24 : Int32) &&& 31).toUInt32).toInt32) &&& (3 : Int32))] [VR b8, VR b5, VR b5])
  refine own_go (fun _ k => XS.dup X8.here hx rfl (hb hby d1_32) rfl rfl (XS.iconst X8.here hx rfl (hb hby d1_33) (XS.iloadN X8.here hx rfl (hb hby d1_34) rfl (XS.iconst X8.here hx rfl (hb hby d1_35) k)))) ?_
  show own_Fin p e below _ T8 (mkF m 36 #[SI p1, SI (((p1.toUInt32 >>> ((24 : Int32) &&& 31).toUInt32).toInt32) &&& (3 : Int32))] [VI 0, VI p1, VI 0, VR b8, VR b8, VR b5, VR b5])
  have z10 : h0.size ≤ h5.size := E5.1
  have z11 : h0.size ≤ h8.size := Nat.le_trans z10 E8.1
  obtain ⟨_, T9, L9, X9, hQ9, st9⟩ := own_cS X8 hx hZ hown (WW hw 97) (WW hw 98) (WW hw 5) (WW hw 99) (rm19_m4 l Z a0 hw [] p1 h8 n0 (Nat.le_trans Z0 z11) ) e8 hml (g := (mkF m 36 #[SI p1, SI (((p1.toUInt32 >>> ((24 : Int32) &&& 31).toUInt32).toInt32) &&& (3 : Int32))] [VI 0, VI p1, VI 0, VR b8, VR b8, VR b5, VR b5])) pd3 (hb hby d1_36) [VI p1, VI 0] [VI 0, VR b8, VR b8, VR b5, VR b5] (W := 5)
  obtain ⟨rfl, N9q, e9⟩ := hQ9
  have N9 := Fr.app N2 N9q
  refine own_go st9 ?_
  show own_Fin p e below _ T9 (mkF m 39 #[SI p1, SI (((p1.toUInt32 >>> ((24 : Int32) &&& 31).toUInt32).toInt32) &&& (3 : Int32))] [VI (own_f19_m4 p1), VI 0, VR b8, VR b8, VR b5, VR b5])
  obtain ⟨cl12, Ar12, q12, Sz12, Nn12, Hs12, Gg12⟩ := id V8
  have i13 : ¬ ((0 : Int32) < 0 ∨ cl12.slots.size ≤ ((0 : Int32)).toNatClampNeg) := inb_of Sz12 ⟨(by decide : ¬ ((0 : Int32) < (0 : Int32))), (by decide : (0 : Int32) < (1 : Int32))⟩
  obtain ⟨T14, h14, X14, e14, W14, st14⟩ := stC X9 hx hZ e9 Ar12 (j := (0 : Int32)) i13 (g := (mkF m 39 #[SI p1, SI (((p1.toUInt32 >>> ((24 : Int32) &&& 31).toUInt32).toInt32) &&& (3 : Int32))] [VI (own_f19_m4 p1), VI 0, VR b8, VR b8, VR b5, VR b5])) rfl rfl (hb hby d1_39)
  have u15 : n0 ≤ b8 := Nat.le_trans Z0 (Nat.le_trans z10 (Nat.le_of_eq g8.symm))
  have N14 := Fr.snoc X14 N9 u15
  have V14 : Arv Z h14 b8 k8 .char 1 [VI (nar .char (own_f19_m4 p1))] (VI 0) := Arv.set Ar12 q12 Sz12 Nn12 Hs12 Gg12 (fits_nar_char _) W14 0 rfl (Nat.le_of_ble_eq_true rfl)
  refine own_go st14 ?_
  show own_Fin p e below _ T14 (mkF m 40 #[SI p1, SI (((p1.toUInt32 >>> ((24 : Int32) &&& 31).toUInt32).toInt32) &&& (3 : Int32))] [VR b8, VR b5, VR b5])
  have F17 : Exa Z h14 b5 cC3 := ((A5.ext E8).wr W14)
  have v18 : b5 ≠ b8 := Nat.ne_of_lt (Nat.lt_of_lt_of_le A5.lt (Nat.le_of_eq g8.symm))
  have F19 : Fld Z h14 b5 cC3 "value" "[B" (.null) := ((F6.ext E8).other W14 (Or.inl v18))
  have F20 : Fld Z h14 b5 cC3 "coder" "B" (VI 0) := ((F7.ext E8).other W14 (Or.inl v18))
  have O24 : Old Z n0 h14 := (((f23.ext E5).ext E8).wr W14 u15)
  have hws : ∀ d ∈ StrChars.Road.words, d.before a0 Z = true := fun d hd => hw d ((by decide +kernel : ∀ d ∈ StrChars.Road.words, d ∈ tables_1) d hd)
  have hp26 : ∀ c ∈ ([(nar .char (own_f19_m4 p1))] : List Int32), ¬ c < 0 ∧ ¬ (255 : Int32) < c := (own_allS (own_chr_19_m4 p1) own_all0)
  have u27 : n0 ≤ b5 := Nat.le_trans Z0 (Nat.le_of_eq g5.symm)
  have z28 : h0.size ≤ h14.size := Nat.le_trans z11 (Nat.le_of_eq (Wr.size W14).symm)
  obtain ⟨_, _, ⟨T16, L16, k16, n16⟩, -, X16, ⟨Lc16, hQ16, l16, y16, z16⟩, st16⟩ := X14.specialBack hx (y := yM2) rfl hown (mvT hZ (WW hw 14)) (mvT hZ (WW hw 15)) (mvT hZ (WW hw 16)) (by decide) (StrChars.Road.backV (W := 1) hZ hws (kI := 4) (WW hw 11) (cs := ([(nar .char (own_f19_m4 p1))] : List Int32)) (bs := ([(nar .char (own_f19_m4 p1))] : List Int32).map (fun c => c.toInt8.toInt32)) (n := 1) u27 (Nat.le_trans Z0 z28) F17 F19 F20 V14 (f22.ext O24.2) f25 rfl rfl (by decide) (by decide) hp26 rfl (by decide) (by decide)) (g := (mkF m 40 #[SI p1, SI (((p1.toUInt32 >>> ((24 : Int32) &&& 31).toUInt32).toInt32) &&& (3 : Int32))] [VR b8, VR b5, VR b5])) rfl (by rw [hml]; rfl) (Steps.refl _) (a := b5) (argsL := [VR b8]) (rest := [VR b5]) (lenOf pd2 rfl) rfl (by show 2 * 0 + _ ≤ _; exact Nat.le_of_eq rfl) (hb hby d1_40) (fun _ _ => ⟨rfl, e14, (by decide : 2 + 1 ≤ _), (by decide : 5 + 1 ≤ _)⟩)
  dsimp only [Pt.U, Pt.locs, Pt.cells, Pt.slots] at X16 l16 y16 z16 st16 hQ16
  subst l16 y16 z16
  obtain ⟨rfl, N16q, K16, oE16, oC16, t16, kb16, -, lo16, nt16, oV16, oA16⟩ := hQ16
  have N16 := Fr.app N14 N16q
  refine own_go (fun _ k => st16.trans k) ?_
  show own_Fin p e below _ T16 (mkF m 43 #[SI p1, SI (((p1.toUInt32 >>> ((24 : Int32) &&& 31).toUInt32).toInt32) &&& (3 : Int32))] [VR b5])
  have K29 : Keep h0 T16.heap [] := (((((Keep.refl h0 []).ext E5).ext E8).wr W14 (Or.inr (Nat.le_trans z10 (Nat.le_of_eq g8.symm)))).trans K16 (allS (Or.inr (Nat.le_of_eq g5.symm)) all0))
  obtain ⟨fs, hr, hrun, hended, hW, hsame⟩ := X16.leave (v := some (.ref b5)) (fun h => by rw [hret] at h; cases h)
  refine own_end (retOut X16 hx hret rfl (Or.inr (Or.inr (Or.inr (Or.inr ⟨rfl, rfl, rfl⟩)))) (hb hby d1_43) hr) hrun hended ⟨_, _, rfl, ?_, ⟨_, rfl⟩, hW, hsame.mono (by decide) (by decide)⟩
  show Q1_3 Z p1 p21 h0 n0 _ T16.heap _
  exact ⟨b5, t16, kb16, rfl, N16, K29, (Nat.le_of_eq g5.symm), (Nat.le_trans z28 lo16), (Ne.symm nt16), oE16, oC16, oV16, oA16⟩
def own_f8_m8 (P1_ : Int32) : Int32 := (if (own_f19_m4 P1_) = (63 : Int32) then (0 : Int32) else (1 : Int32))
theorem ef8_m8 (m : MethodId) (P1_ : Int32) : entryFrame m #[(.int P1_)] 5 = mkF m 0 #[SI P1_, SU, SU, SU, SU] [] := by first | (simp [entryFrame, mkF, argsToLocals, Value.category]; done) | rfl
def Q8_m8 (Z : State) (P1_ : Int32) (h0 : Heap) (n0 : Nat) (v : Option Value) (h : Heap) (L : List Loc) : Prop := v = some (.int (own_f8_m8 P1_)) ∧ Fr n0 L ∧ h = h0
set_option maxRecDepth 65536 in
set_option maxHeartbeats 40000000 in
theorem rm8_m8 (l : Launch) (Z : State) (a0 : Array Value) (hw : HW a0 Z) (ws : List Jvm.Cond) (P1_ : Int32) (h0 : Heap) (n0 : Nat) (Z0 : n0 ≤ h0.size) (fm1_ : ¬ ((((P1_.toUInt32 >>> ((24 : Int32) &&& 31).toUInt32).toInt32) &&& (3 : Int32)) < (1 : Int32))) (fm2_ : (((P1_.toUInt32 >>> ((24 : Int32) &&& 31).toUInt32).toInt32) &&& (3 : Int32)) < (2 : Int32)) (fm3_ : (((P1_.toUInt32 >>> ((24 : Int32) &&& 31).toUInt32).toInt32) &&& (3 : Int32)) < (3 : Int32)) :
    MetFree l yM7 (head1 (Jvm.Cond.code yM7 method_6_code 5 (some .boolean) :: ws) ({ frames := 1, cells := 0, slots := 0, locals := 13 } : Room)) (fun a U => a = #[(.int P1_)] ∧ Z.Warmed39 U.vm ∧ U.heap = h0) (fun _ _ _ _ _ => True) (fun _ U o U' => ∃ v L, o = .returned v ∧ Q8_m8 Z P1_ h0 n0 v U'.heap L ∧ FrameEnd U o U' L ({ frames := 1, cells := 0, slots := 0, locals := 13 } : Room).cells ({ frames := 1, cells := 0, slots := 0, locals := 13 } : Room).slots) := by
  refine own_enter (n0 := n0) (plainFor_of_name pn0) (fun m => ef8_m8 m P1_) ?_
  intro p e s m below meth c s₁ hx hby hml hown hnm hret hlk X0 e0 hZ hh N0
  show own_Fin p e below _ s₁ (mkF m 0 #[SI P1_, SU, SU, SU, SU] [])
  refine own_go (fun _ k => XS.iloadN X0.here hx rfl (hb hby d8_0) rfl k) ?_
  show own_Fin p e below _ s₁ (mkF m 1 #[SI P1_, SU, SU, SU, SU] [VI P1_])
  obtain ⟨_, T1, L1, X1, hQ1, st1⟩ := own_cS X0 hx hZ hown (WW hw 7) (WW hw 8) (WW hw 5) (WW hw 9) (rm2_1 l Z a0 hw [] P1_ h0 n0 Z0 ) e0 hml (g := (mkF m 1 #[SI P1_, SU, SU, SU, SU] [VI P1_])) pd0 (hb hby d8_1) [VI P1_] [] (W := 0)
  obtain ⟨rfl, N1q, e1⟩ := hQ1
  have N1 := Fr.app N0 N1q
  refine own_go st1 ?_
  show own_Fin p e below _ T1 (mkF m 4 #[SI P1_, SU, SU, SU, SU] [VI (((P1_.toUInt32 >>> ((24 : Int32) &&& 31).toUInt32).toInt32) &&& (3 : Int32))])
  refine own_go (fun _ k => XS.istoreN X1.here hx rfl (hb hby d8_4) rfl (l' := #[SI P1_, SI (((P1_.toUInt32 >>> ((24 : Int32) &&& 31).toUInt32).toInt32) &&& (3 : Int32)), SU, SU, SU]) rfl (XS.iloadN X1.here hx rfl (hb hby d8_5) rfl (XS.iconst X1.here hx rfl (hb hby d8_6) (XS.icmpNo X1.here hx rfl (hb hby d8_7) rfl (flt fm1_).1 (XS.iloadN X1.here hx rfl (hb hby d8_10) rfl (XS.iconst X1.here hx rfl (hb hby d8_11) k)))))) ?_
  show own_Fin p e below _ T1 (mkF m 12 #[SI P1_, SI (((P1_.toUInt32 >>> ((24 : Int32) &&& 31).toUInt32).toInt32) &&& (3 : Int32)), SU, SU, SU] [VI 0, VI P1_])
  obtain ⟨_, T2, L2, X2, hQ2, st2⟩ := own_cS X1 hx hZ hown (WW hw 97) (WW hw 98) (WW hw 5) (WW hw 99) (rm19_m4 l Z a0 hw [] P1_ h0 n0 Z0 ) e1 hml (g := (mkF m 12 #[SI P1_, SI (((P1_.toUInt32 >>> ((24 : Int32) &&& 31).toUInt32).toInt32) &&& (3 : Int32)), SU, SU, SU] [VI 0, VI P1_])) pd3 (hb hby d8_12) [VI P1_, VI 0] [] (W := 0)
  obtain ⟨rfl, N2q, e2⟩ := hQ2
  have N2 := Fr.app N1 N2q
  refine own_go st2 ?_
  show own_Fin p e below _ T2 (mkF m 15 #[SI P1_, SI (((P1_.toUInt32 >>> ((24 : Int32) &&& 31).toUInt32).toInt32) &&& (3 : Int32)), SU, SU, SU] [VI (own_f19_m4 P1_)])
  by_cases hm0 : (own_f19_m4 P1_) = (63 : Int32)
  ·
    refine own_go (fun _ k => XS.bipush X2.here hx rfl (hb hby d8_15) (XS.icmpYes X2.here hx rfl (pc0 := 17) (pc' := 24) rfl (hb hby d8_17) rfl (teq hm0).1 (by decide) (by decide) (XS.iconst X2.here hx rfl (hb hby d8_24) (XS.istoreN X2.here hx rfl (hb hby d8_25) rfl (l' := #[SI P1_, SI (((P1_.toUInt32 >>> ((24 : Int32) &&& 31).toUInt32).toInt32) &&& (3 : Int32)), SI 0, SU, SU]) rfl (XS.iloadN X2.here hx rfl (hb hby d8_26) rfl (XS.iconst X2.here hx rfl (hb hby d8_27) (XS.icmpYes X2.here hx rfl (pc0 := 28) (pc' := 41) rfl (hb hby d8_28) rfl (tlt fm2_).1 (by decide) (by decide) (XS.iconst X2.here hx rfl (hb hby d8_41) (XS.goto X2.here hx rfl (pc0 := 42) (pc' := 46) rfl (hb hby d8_42) (by decide) (by decide) (XS.istoreN X2.here hx rfl (hb hby d8_46) rfl (l' := #[SI P1_, SI (((P1_.toUInt32 >>> ((24 : Int32) &&& 31).toUInt32).toInt32) &&& (3 : Int32)), SI 0, SI 1, SU]) rfl k)))))))))) ?_
    show own_Fin p e below _ T2 (mkF m 47 #[SI P1_, SI (((P1_.toUInt32 >>> ((24 : Int32) &&& 31).toUInt32).toInt32) &&& (3 : Int32)), SI 0, SI 1, SU] [])
    refine own_go (fun _ k => XS.iloadN X2.here hx rfl (hb hby d8_47) rfl (XS.iconst X2.here hx rfl (hb hby d8_48) (XS.icmpYes X2.here hx rfl (pc0 := 49) (pc' := 62) rfl (hb hby d8_49) rfl (tlt fm3_).1 (by decide) (by decide) (XS.iconst X2.here hx rfl (hb hby d8_62) (XS.goto X2.here hx rfl (pc0 := 63) (pc' := 67) rfl (hb hby d8_63) (by decide) (by decide) (XS.istore X2.here hx rfl (hb hby d8_67) rfl (l' := #[SI P1_, SI (((P1_.toUInt32 >>> ((24 : Int32) &&& 31).toUInt32).toInt32) &&& (3 : Int32)), SI 0, SI 1, SI 1]) rfl (XS.iloadN X2.here hx rfl (hb hby d8_69) rfl (XS.ifYes X2.here hx rfl (pc0 := 70) (pc' := 86) rfl (hb hby d8_70) rfl ((if0 _ _).trans (teq (by decide : (0 : Int32) = (0 : Int32))).1) (by decide) (by decide) (XS.iconst X2.here hx rfl (hb hby d8_86) k))))))))) ?_
    show own_Fin p e below _ T2 (mkF m 87 #[SI P1_, SI (((P1_.toUInt32 >>> ((24 : Int32) &&& 31).toUInt32).toInt32) &&& (3 : Int32)), SI 0, SI 1, SI 1] [VI 0])
    obtain ⟨fs, hr, hrun, hended, hW, hsame⟩ := X2.leave (v := some (.int (0 : Int32))) (fun h => by rw [hret] at h; cases h)
    refine own_end (retN X2 hx (t := .boolean) hret (by simp) (hb hby d8_87) hr) hrun hended ⟨_, _, rfl, ?_, ⟨_, rfl⟩, hW, hsame.mono (by decide) (by decide)⟩
    show Q8_m8 Z P1_ h0 n0 _ T2.heap _
    rw [e2]
    exact ⟨by simp only [own_f8_m8, hm0, ↓reduceIte], N2, rfl⟩
  ·
    refine own_go (fun _ k => XS.bipush X2.here hx rfl (hb hby d8_15) (XS.icmpNo X2.here hx rfl (hb hby d8_17) rfl (feq hm0).1 (XS.iconst X2.here hx rfl (hb hby d8_20) (XS.goto X2.here hx rfl (pc0 := 21) (pc' := 25) rfl (hb hby d8_21) (by decide) (by decide) (XS.istoreN X2.here hx rfl (hb hby d8_25) rfl (l' := #[SI P1_, SI (((P1_.toUInt32 >>> ((24 : Int32) &&& 31).toUInt32).toInt32) &&& (3 : Int32)), SI 1, SU, SU]) rfl (XS.iloadN X2.here hx rfl (hb hby d8_26) rfl (XS.iconst X2.here hx rfl (hb hby d8_27) (XS.icmpYes X2.here hx rfl (pc0 := 28) (pc' := 41) rfl (hb hby d8_28) rfl (tlt fm2_).1 (by decide) (by decide) (XS.iconst X2.here hx rfl (hb hby d8_41) (XS.goto X2.here hx rfl (pc0 := 42) (pc' := 46) rfl (hb hby d8_42) (by decide) (by decide) k)))))))))) ?_
    show own_Fin p e below _ T2 (mkF m 46 #[SI P1_, SI (((P1_.toUInt32 >>> ((24 : Int32) &&& 31).toUInt32).toInt32) &&& (3 : Int32)), SI 1, SU, SU] [VI 1])
    refine own_go (fun _ k => XS.istoreN X2.here hx rfl (hb hby d8_46) rfl (l' := #[SI P1_, SI (((P1_.toUInt32 >>> ((24 : Int32) &&& 31).toUInt32).toInt32) &&& (3 : Int32)), SI 1, SI 1, SU]) rfl (XS.iloadN X2.here hx rfl (hb hby d8_47) rfl (XS.iconst X2.here hx rfl (hb hby d8_48) (XS.icmpYes X2.here hx rfl (pc0 := 49) (pc' := 62) rfl (hb hby d8_49) rfl (tlt fm3_).1 (by decide) (by decide) (XS.iconst X2.here hx rfl (hb hby d8_62) (XS.goto X2.here hx rfl (pc0 := 63) (pc' := 67) rfl (hb hby d8_63) (by decide) (by decide) (XS.istore X2.here hx rfl (hb hby d8_67) rfl (l' := #[SI P1_, SI (((P1_.toUInt32 >>> ((24 : Int32) &&& 31).toUInt32).toInt32) &&& (3 : Int32)), SI 1, SI 1, SI 1]) rfl (XS.iloadN X2.here hx rfl (hb hby d8_69) rfl (XS.ifNo X2.here hx rfl (hb hby d8_70) rfl ((if0 _ _).trans (feq (by decide : ¬ ((1 : Int32) = (0 : Int32)))).1) (XS.iloadN X2.here hx rfl (hb hby d8_73) rfl k)))))))))) ?_
    show own_Fin p e below _ T2 (mkF m 74 #[SI P1_, SI (((P1_.toUInt32 >>> ((24 : Int32) &&& 31).toUInt32).toInt32) &&& (3 : Int32)), SI 1, SI 1, SI 1] [VI 1])
    refine own_go (fun _ k => XS.ifNo X2.here hx rfl (hb hby d8_74) rfl ((if0 _ _).trans (feq (by decide : ¬ ((1 : Int32) = (0 : Int32)))).1) (XS.iload X2.here hx rfl (hb hby d8_77) rfl (XS.ifNo X2.here hx rfl (hb hby d8_79) rfl ((if0 _ _).trans (feq (by decide : ¬ ((1 : Int32) = (0 : Int32)))).1) (XS.iconst X2.here hx rfl (hb hby d8_82) (XS.goto X2.here hx rfl (pc0 := 83) (pc' := 87) rfl (hb hby d8_83) (by decide) (by decide) k))))) ?_
    show own_Fin p e below _ T2 (mkF m 87 #[SI P1_, SI (((P1_.toUInt32 >>> ((24 : Int32) &&& 31).toUInt32).toInt32) &&& (3 : Int32)), SI 1, SI 1, SI 1] [VI 1])
    obtain ⟨fs, hr, hrun, hended, hW, hsame⟩ := X2.leave (v := some (.int (1 : Int32))) (fun h => by rw [hret] at h; cases h)
    refine own_end (retN X2 hx (t := .boolean) hret (by simp) (hb hby d8_87) hr) hrun hended ⟨_, _, rfl, ?_, ⟨_, rfl⟩, hW, hsame.mono (by decide) (by decide)⟩
    show Q8_m8 Z P1_ h0 n0 _ T2.heap _
    rw [e2]
    exact ⟨by simp only [own_f8_m8, hm0, ↓reduceIte], N2, rfl⟩
theorem ef13_2 (m : MethodId) (a1 : Addr) : entryFrame m #[(.ref a1)] 1 = mkF m 0 #[SR a1] [] := by first | (simp [entryFrame, mkF, argsToLocals, Value.category]; done) | rfl
def Q13_2 (Z : State) (a1 : Addr) (a2 : Addr) (k5 : ClassId) (p6 : Int32) (p10 : Int32) (h0 : Heap) (n0 : Nat) (v : Option Value) (h : Heap) (L : List Loc) : Prop := v = some (.int (1 : Int32)) ∧ Fr n0 L ∧ h = h0
set_option maxRecDepth 65536 in
set_option maxHeartbeats 40000000 in
theorem rm13_2 (l : Launch) (Z : State) (a0 : Array Value) (hw : HW a0 Z) (ws : List Jvm.Cond) (a1 : Addr) (a2 : Addr) (k5 : ClassId) (p6 : Int32) (p10 : Int32) (h0 : Heap) (n0 : Nat) (Z0 : n0 ≤ h0.size) (f3 : Fld Z h0 a1 cC3 "value" "[B" (VR a2)) (f7 : Arv Z h0 a2 k5 .byte 1 [VI p6] (VI 0)) (f9 : Exa Z h0 a1 cC3) (f11 : Sta Z Z.heap "java/lang/String" "COMPACT_STRINGS" "Z" (.int p10)) (f12 : Old Z n0 h0) (f13 : ¬ (p10 = (0 : Int32))) (f14 : Fld Z h0 a1 cC3 "coder" "B" (VI 0)) :
    MetFree l yM10 (head1 (Jvm.Cond.code yM10 jdk_42_method_54_code 1 (some .int) :: ws) ({ frames := 1, cells := 0, slots := 0, locals := 13 } : Room)) (fun a U => a = #[(.ref a1)] ∧ Z.Warmed39 U.vm ∧ U.heap = h0) (fun _ _ _ _ _ => True) (fun _ U o U' => ∃ v L, o = .returned v ∧ Q13_2 Z a1 a2 k5 p6 p10 h0 n0 v U'.heap L ∧ FrameEnd U o U' L ({ frames := 1, cells := 0, slots := 0, locals := 13 } : Room).cells ({ frames := 1, cells := 0, slots := 0, locals := 13 } : Room).slots) := by
  refine own_enter (n0 := n0) (plainFor_of_name pn3) (fun m => ef13_2 m a1) ?_
  intro p e s m below meth c s₁ hx hby hml hown hnm hret hlk X0 e0 hZ hh N0
  show own_Fin p e below _ s₁ (mkF m 0 #[SR a1] [])
  refine own_go (fun _ k => XS.aloadN X0.here hx rfl (hb hby d13_0) rfl rfl k) ?_
  show own_Fin p e below _ s₁ (mkF m 1 #[SR a1] [VR a1])
  obtain ⟨T4, X4, e4, st4⟩ := getF X0 hx hZ hown (host := "") (Or.inl (WW hw 30)) Via.refl e0 f3 (g := (mkF m 1 #[SR a1] [VR a1])) rfl rfl (hb hby d13_1)
  refine own_go st4 ?_
  show own_Fin p e below _ T4 (mkF m 4 #[SR a1] [VR a2])
  obtain ⟨cl8, Ar8, q8, Sz8, Nn8, Hs8, Gg8⟩ := id f7
  refine own_go (fun _ k => X4.arraylength hx (by rw [e4]; exact Ar8.1) (State.isArrayOf_alike hZ.alike Ar8.2.1) (g := (mkF m 4 #[SR a1] [VR a2])) rfl rfl (hb hby d13_4) _ k) ?_
  rw [len_of Sz8 Nn8]
  show own_Fin p e below _ T4 (mkF m 5 #[SR a1] [VI 1])
  refine own_go (fun _ k => XS.aloadN X4.here hx rfl (hb hby d13_5) rfl rfl k) ?_
  show own_Fin p e below _ T4 (mkF m 6 #[SR a1] [VR a1, VI 1])
  obtain ⟨_, T15, L15, X15, hQ15, st15⟩ := own_cV X4 hx hZ hown (WW hw 78) (WW hw 79) (notFace_of_selects (args := #[]) (mvT hZ (WW hw 81))) (WW hw 81) (WW hw 80) (WW hw 12) (WW hw 82) (rm14_1 l Z a0 hw [] a1 p10 h0 n0 Z0 f11 f12 f13 f14) e4 f9 hml (g := (mkF m 6 #[SR a1] [VR a1, VI 1])) pd9 (hb hby d13_6) [] [VI 1] (W := 1)
  obtain ⟨rfl, N15q, e15⟩ := hQ15
  have N15 := Fr.app N0 N15q
  refine own_go st15 ?_
  show own_Fin p e below _ T15 (mkF m 9 #[SR a1] [VI 0, VI 1])
  refine own_go (fun _ k => XS.ishr X15.here hx rfl (hb hby d13_9) rfl k) ?_
  show own_Fin p e below _ T15 (mkF m 10 #[SR a1] [VI 1])
  obtain ⟨fs, hr, hrun, hended, hW, hsame⟩ := X15.leave (v := some (.int (1 : Int32))) (fun h => by rw [hret] at h; cases h)
  refine own_end (retOut X15 hx hret rfl (Or.inl ⟨rfl, Or.inl rfl, _, rfl⟩) (hb hby d13_10) hr) hrun hended ⟨_, _, rfl, ?_, ⟨_, rfl⟩, hW, hsame.mono (by decide) (by decide)⟩
  show Q13_2 Z a1 a2 k5 p6 p10 h0 n0 _ T15.heap _
  rw [e15]
  exact ⟨rfl, N15, rfl⟩
def own_f23_m12 (P2_ : Int32) (P4_ : Int32) : Int32 := (if P4_ = (P2_.toInt8.toInt32) then (0 : Int32) else (-1 : Int32))
theorem ef23_m12 (m : MethodId) (A1_ : Addr) (P2_ : Int32) : entryFrame m #[(.ref A1_), (.int P2_), (.int (0 : Int32)), (.int (1 : Int32))] 6 = mkF m 0 #[SR A1_, SI P2_, SI 0, SI 1, SU, SU] [] := by first | (simp [entryFrame, mkF, argsToLocals, Value.category]; done) | rfl
def Q23_m12 (Z : State) (A1_ : Addr) (P2_ : Int32) (KK3_ : ClassId) (P4_ : Int32) (h0 : Heap) (n0 : Nat) (v : Option Value) (h : Heap) (L : List Loc) : Prop := v = some (.int (own_f23_m12 P2_ P4_)) ∧ Fr n0 L ∧ h = h0
set_option maxRecDepth 65536 in
set_option maxHeartbeats 40000000 in
theorem rm23_m12 (l : Launch) (Z : State) (a0 : Array Value) (hw : HW a0 Z) (ws : List Jvm.Cond) (A1_ : Addr) (P2_ : Int32) (KK3_ : ClassId) (P4_ : Int32) (h0 : Heap) (n0 : Nat) (Z0 : n0 ≤ h0.size) (fm1_ : Arv Z h0 A1_ KK3_ .byte 1 [VI P4_] (VI 0)) :
    MetFree l yM18 (head1 (Jvm.Cond.code yM18 jdk_43_method_23_code 6 (some .int) :: ws) ({ frames := 0, cells := 0, slots := 0, locals := 0 } : Room)) (fun a U => a = #[(.ref A1_), (.int P2_), (.int (0 : Int32)), (.int (1 : Int32))] ∧ Z.Warmed39 U.vm ∧ U.heap = h0) (fun _ _ _ _ _ => True) (fun _ U o U' => ∃ v L, o = .returned v ∧ Q23_m12 Z A1_ P2_ KK3_ P4_ h0 n0 v U'.heap L ∧ FrameEnd U o U' L ({ frames := 0, cells := 0, slots := 0, locals := 0 } : Room).cells ({ frames := 0, cells := 0, slots := 0, locals := 0 } : Room).slots) := by
  refine own_enter (n0 := n0) (plainFor_of_name pn15) (fun m => ef23_m12 m A1_ P2_) ?_
  intro p e s m below meth c s₁ hx hby hml hown hnm hret hlk X0 e0 hZ hh N0
  show own_Fin p e below _ s₁ (mkF m 0 #[SR A1_, SI P2_, SI 0, SI 1, SU, SU] [])
  refine own_go (fun _ k => XS.iloadN X0.here hx rfl (hb hby d23_0) rfl (XS.i2b X0.here hx rfl (hb hby d23_1) rfl (XS.istore X0.here hx rfl (hb hby d23_2) rfl (l' := #[SR A1_, SI P2_, SI 0, SI 1, SI (P2_.toInt8.toInt32), SU]) rfl (XS.iloadN X0.here hx rfl (hb hby d23_4) rfl (XS.istore X0.here hx rfl (hb hby d23_5) rfl (l' := #[SR A1_, SI P2_, SI 0, SI 1, SI (P2_.toInt8.toInt32), SI 0]) rfl (XS.iload X0.here hx rfl (hb hby d23_7) rfl (XS.iloadN X0.here hx rfl (hb hby d23_9) rfl (XS.icmpNo X0.here hx rfl (hb hby d23_10) rfl (tlt (by decide : (0 : Int32) < (1 : Int32))).2.1 (XS.aloadN X0.here hx rfl (hb hby d23_13) rfl rfl (XS.iload X0.here hx rfl (hb hby d23_14) rfl k)))))))))) ?_
  show own_Fin p e below _ s₁ (mkF m 16 #[SR A1_, SI P2_, SI 0, SI 1, SI (P2_.toInt8.toInt32), SI 0] [VI 0, VR A1_])
  obtain ⟨cl1, Ar1, q1, Sz1, Nn1, Hs1, Gg1⟩ := id fm1_
  have i2 : ¬ ((0 : Int32) < 0 ∨ cl1.slots.size ≤ ((0 : Int32)).toNatClampNeg) := inb_of Sz1 ⟨(by decide : ¬ ((0 : Int32) < (0 : Int32))), (by decide : (0 : Int32) < (1 : Int32))⟩
  refine own_go (fun _ k => X0.baloadBytes hx (j := (0 : Int32)) (v := (.int P4_)) (by rw [e0]; exact Ar1.1) (State.isArrayOf_alike hZ.alike Ar1.2.1) Ar1.2.2 i2 (Hs1.at i2 rfl) (g := (mkF m 16 #[SR A1_, SI P2_, SI 0, SI 1, SI (P2_.toInt8.toInt32), SI 0] [VI 0, VR A1_])) rfl rfl (hb hby d23_16) _ k) ?_
  show own_Fin p e below _ s₁ (mkF m 17 #[SR A1_, SI P2_, SI 0, SI 1, SI (P2_.toInt8.toInt32), SI 0] [VI P4_])
  by_cases hm0 : P4_ = (P2_.toInt8.toInt32)
  ·
    refine own_go (fun _ k => XS.iload X0.here hx rfl (hb hby d23_17) rfl (XS.icmpNo X0.here hx rfl (hb hby d23_19) rfl (teq hm0).2 (XS.iload X0.here hx rfl (hb hby d23_22) rfl k))) ?_
    show own_Fin p e below _ s₁ (mkF m 24 #[SR A1_, SI P2_, SI 0, SI 1, SI (P2_.toInt8.toInt32), SI 0] [VI 0])
    obtain ⟨fs, hr, hrun, hended, hW, hsame⟩ := X0.leave (v := some (.int (0 : Int32))) (fun h => by rw [hret] at h; cases h)
    refine own_end (retOut X0 hx hret rfl (Or.inl ⟨rfl, Or.inl rfl, _, rfl⟩) (hb hby d23_24) hr) hrun hended ⟨_, _, rfl, ?_, ⟨_, rfl⟩, hW, hsame.mono (by decide) (by decide)⟩
    show Q23_m12 Z A1_ P2_ KK3_ P4_ h0 n0 _ s₁.heap _
    rw [e0]
    exact ⟨by simp only [own_f23_m12, hm0, ↓reduceIte], N0, rfl⟩
  ·
    refine own_go (fun _ k => XS.iload X0.here hx rfl (hb hby d23_17) rfl (XS.icmpYes X0.here hx rfl (pc0 := 19) (pc' := 25) rfl (hb hby d23_19) rfl (feq hm0).2 (by decide) (by decide) (XS.iinc X0.here hx rfl (hb hby d23_25) rfl (l' := #[SR A1_, SI P2_, SI 0, SI 1, SI (P2_.toInt8.toInt32), SI 1]) rfl (XS.goto X0.here hx rfl (pc0 := 28) (pc' := 7) rfl (hb hby d23_28) (by decide) (by decide) (XS.iload X0.here hx rfl (hb hby d23_7) rfl (XS.iloadN X0.here hx rfl (hb hby d23_9) rfl (XS.icmpYes X0.here hx rfl (pc0 := 10) (pc' := 31) rfl (hb hby d23_10) rfl (flt (by decide : ¬ ((1 : Int32) < (1 : Int32)))).2.1 (by decide) (by decide) (XS.iconst X0.here hx rfl (hb hby d23_31) k)))))))) ?_
    show own_Fin p e below _ s₁ (mkF m 32 #[SR A1_, SI P2_, SI 0, SI 1, SI (P2_.toInt8.toInt32), SI 1] [VI (-1)])
    obtain ⟨fs, hr, hrun, hended, hW, hsame⟩ := X0.leave (v := some (.int (-1 : Int32))) (fun h => by rw [hret] at h; cases h)
    refine own_end (retOut X0 hx hret rfl (Or.inl ⟨rfl, Or.inl rfl, _, rfl⟩) (hb hby d23_32) hr) hrun hended ⟨_, _, rfl, ?_, ⟨_, rfl⟩, hW, hsame.mono (by decide) (by decide)⟩
    show Q23_m12 Z A1_ P2_ KK3_ P4_ h0 n0 _ s₁.heap _
    rw [e0]
    exact ⟨by simp only [own_f23_m12, hm0, ↓reduceIte], N0, rfl⟩
theorem ef15_2 (m : MethodId) (a1 : Addr) (p2 : Int32) : entryFrame m #[(.ref a1), (.int p2), (.int (0 : Int32)), (.int (1 : Int32))] 4 = mkF m 0 #[SR a1, SI p2, SI 0, SI 1] [] := by first | (simp [entryFrame, mkF, argsToLocals, Value.category]; done) | rfl
def Q15_2 (Z : State) (a1 : Addr) (p2 : Int32) (k7 : ClassId) (p8 : Int32) (h0 : Heap) (n0 : Nat) (v : Option Value) (h : Heap) (L : List Loc) : Prop := v = some (.int (own_f23_m12 p2 p8)) ∧ Fr n0 L ∧ h = h0
set_option maxRecDepth 65536 in
set_option maxHeartbeats 40000000 in
theorem rm15_2 (l : Launch) (Z : State) (a0 : Array Value) (hw : HW a0 Z) (ws : List Jvm.Cond) (a1 : Addr) (p2 : Int32) (k7 : ClassId) (p8 : Int32) (h0 : Heap) (n0 : Nat) (Z0 : n0 ≤ h0.size) (f3 : ¬ (p2 < (0 : Int32))) (f4 : ¬ ((255 : Int32) < p2)) (f9 : Arv Z h0 a1 k7 .byte 1 [VI p8] (VI 0)) :
    MetFree l yM14 (head1 (Jvm.Cond.code yM14 jdk_43_method_22_code 4 (some .int) :: ws) ({ frames := 1, cells := 0, slots := 0, locals := 17 } : Room)) (fun a U => a = #[(.ref a1), (.int p2), (.int (0 : Int32)), (.int (1 : Int32))] ∧ Z.Warmed39 U.vm ∧ U.heap = h0) (fun _ _ _ _ _ => True) (fun _ U o U' => ∃ v L, o = .returned v ∧ Q15_2 Z a1 p2 k7 p8 h0 n0 v U'.heap L ∧ FrameEnd U o U' L ({ frames := 1, cells := 0, slots := 0, locals := 17 } : Room).cells ({ frames := 1, cells := 0, slots := 0, locals := 17 } : Room).slots) := by
  refine own_enter (n0 := n0) (plainFor_of_name pn15) (fun m => ef15_2 m a1 p2) ?_
  intro p e s m below meth c s₁ hx hby hml hown hnm hret hlk X0 e0 hZ hh N0
  show own_Fin p e below _ s₁ (mkF m 0 #[SR a1, SI p2, SI 0, SI 1] [])
  refine own_go (fun _ k => XS.iloadN X0.here hx rfl (hb hby d15_0) rfl k) ?_
  show own_Fin p e below _ s₁ (mkF m 1 #[SR a1, SI p2, SI 0, SI 1] [VI p2])
  obtain ⟨_, T5, L5, X5, hQ5, st5⟩ := own_cS X0 hx hZ hown (WW hw 87) (WW hw 88) (WW hw 85) (WW hw 89) (rm16_1 l Z a0 hw [] p2 h0 n0 Z0 f3 f4) e0 hml (g := (mkF m 1 #[SR a1, SI p2, SI 0, SI 1] [VI p2])) pd7 (hb hby d15_1) [VI p2] [] (W := 0)
  obtain ⟨rfl, N5q, e5⟩ := hQ5
  have N5 := Fr.app N0 N5q
  refine own_go st5 ?_
  show own_Fin p e below _ T5 (mkF m 4 #[SR a1, SI p2, SI 0, SI 1] [VI 1])
  refine own_go (fun _ k => XS.ifYes X5.here hx rfl (pc0 := 4) (pc' := 9) rfl (hb hby d15_4) rfl ((if0 _ _).trans (feq (by decide : ¬ ((1 : Int32) = (0 : Int32)))).2) (by decide) (by decide) (XS.iloadN X5.here hx rfl (hb hby d15_9) rfl (XS.iconst X5.here hx rfl (hb hby d15_10) k))) ?_
  show own_Fin p e below _ T5 (mkF m 11 #[SR a1, SI p2, SI 0, SI 1] [VI 0, VI 0])
  obtain ⟨_, T6, L6, X6, hQ6, st6⟩ := own_cS X5 hx hZ hown (WW hw 90) (WW hw 91) (WW hw 92) (WW hw 93) (rm17_1 l Z a0 hw [] (0 : Int32) (0 : Int32) h0 n0 Z0 (by decide : ¬ ((0 : Int32) < (0 : Int32)))) e5 hml (g := (mkF m 11 #[SR a1, SI p2, SI 0, SI 1] [VI 0, VI 0])) pd11 (hb hby d15_11) [VI 0, VI 0] [] (W := 0)
  obtain ⟨rfl, N6q, e6⟩ := hQ6
  have N6 := Fr.app N5 N6q
  refine own_go st6 ?_
  show own_Fin p e below _ T6 (mkF m 14 #[SR a1, SI p2, SI 0, SI 1] [VI 0])
  refine own_go (fun _ k => XS.istoreN X6.here hx rfl (hb hby d15_14) rfl (l' := #[SR a1, SI p2, SI 0, SI 1]) rfl (XS.iloadN X6.here hx rfl (hb hby d15_15) rfl (XS.aloadN X6.here hx rfl (hb hby d15_16) rfl rfl k))) ?_
  show own_Fin p e below _ T6 (mkF m 17 #[SR a1, SI p2, SI 0, SI 1] [VR a1, VI 1])
  obtain ⟨cl10, Ar10, q10, Sz10, Nn10, Hs10, Gg10⟩ := id f9
  refine own_go (fun _ k => X6.arraylength hx (by rw [e6]; exact Ar10.1) (State.isArrayOf_alike hZ.alike Ar10.2.1) (g := (mkF m 17 #[SR a1, SI p2, SI 0, SI 1] [VR a1, VI 1])) rfl rfl (hb hby d15_17) _ k) ?_
  rw [len_of Sz10 Nn10]
  show own_Fin p e below _ T6 (mkF m 18 #[SR a1, SI p2, SI 0, SI 1] [VI 1, VI 1])
  obtain ⟨_, T11, L11, X11, hQ11, st11⟩ := own_cS X6 hx hZ hown (WW hw 94) (WW hw 95) (WW hw 92) (WW hw 96) (rm18_1 l Z a0 hw [] (1 : Int32) (1 : Int32) h0 n0 Z0 (by decide : ¬ ((1 : Int32) < (1 : Int32)))) e6 hml (g := (mkF m 18 #[SR a1, SI p2, SI 0, SI 1] [VI 1, VI 1])) pd11 (hb hby d15_18) [VI 1, VI 1] [] (W := 0)
  obtain ⟨rfl, N11q, e11⟩ := hQ11
  have N11 := Fr.app N6 N11q
  refine own_go st11 ?_
  show own_Fin p e below _ T11 (mkF m 21 #[SR a1, SI p2, SI 0, SI 1] [VI 1])
  refine own_go (fun _ k => XS.istoreN X11.here hx rfl (hb hby d15_21) rfl (l' := #[SR a1, SI p2, SI 0, SI 1]) rfl (XS.iloadN X11.here hx rfl (hb hby d15_22) rfl (XS.iloadN X11.here hx rfl (hb hby d15_23) rfl (XS.icmpYes X11.here hx rfl (pc0 := 24) (pc' := 29) rfl (hb hby d15_24) rfl (tlt (by decide : (0 : Int32) < (1 : Int32))).1 (by decide) (by decide) (XS.aloadN X11.here hx rfl (hb hby d15_29) rfl rfl (XS.iloadN X11.here hx rfl (hb hby d15_30) rfl (XS.iloadN X11.here hx rfl (hb hby d15_31) rfl (XS.iloadN X11.here hx rfl (hb hby d15_32) rfl k)))))))) ?_
  show own_Fin p e below _ T11 (mkF m 33 #[SR a1, SI p2, SI 0, SI 1] [VI 1, VI 0, VI p2, VR a1])
  obtain ⟨_, T12, L12, X12, hQ12, st12⟩ := own_cS X11 hx hZ hown (WW hw 110) (WW hw 111) (WW hw 85) (WW hw 112) (rm23_m12 l Z a0 hw [] a1 p2 k7 p8 h0 n0 Z0 f9) e11 hml (g := (mkF m 33 #[SR a1, SI p2, SI 0, SI 1] [VI 1, VI 0, VI p2, VR a1])) pd12 (hb hby d15_33) [VR a1, VI p2, VI 0, VI 1] [] (W := 0)
  obtain ⟨rfl, N12q, e12⟩ := hQ12
  have N12 := Fr.app N11 N12q
  refine own_go st12 ?_
  show own_Fin p e below _ T12 (mkF m 36 #[SR a1, SI p2, SI 0, SI 1] [VI (own_f23_m12 p2 p8)])
  obtain ⟨fs, hr, hrun, hended, hW, hsame⟩ := X12.leave (v := some (.int (own_f23_m12 p2 p8))) (fun h => by rw [hret] at h; cases h)
  refine own_end (retOut X12 hx hret rfl (Or.inl ⟨rfl, Or.inl rfl, _, rfl⟩) (hb hby d15_36) hr) hrun hended ⟨_, _, rfl, ?_, ⟨_, rfl⟩, hW, hsame.mono (by decide) (by decide)⟩
  show Q15_2 Z a1 p2 k7 p8 h0 n0 _ T12.heap _
  rw [e12]
  exact ⟨rfl, N12, rfl⟩
theorem ef11_2 (m : MethodId) (a1 : Addr) (p2 : Int32) : entryFrame m #[(.ref a1), (.int p2), (.int (0 : Int32))] 3 = mkF m 0 #[SR a1, SI p2, SI 0] [] := by first | (simp [entryFrame, mkF, argsToLocals, Value.category]; done) | rfl
def Q11_2 (Z : State) (a1 : Addr) (p2 : Int32) (p4 : Int32) (a10 : Addr) (k13 : ClassId) (p14 : Int32) (h0 : Heap) (n0 : Nat) (v : Option Value) (h : Heap) (L : List Loc) : Prop := v = some (.int (own_f23_m12 p2 p14)) ∧ Fr n0 L ∧ h = h0
set_option maxRecDepth 65536 in
set_option maxHeartbeats 40000000 in
theorem rm11_2 (l : Launch) (Z : State) (a0 : Array Value) (hw : HW a0 Z) (ws : List Jvm.Cond) (a1 : Addr) (p2 : Int32) (p4 : Int32) (a10 : Addr) (k13 : ClassId) (p14 : Int32) (h0 : Heap) (n0 : Nat) (Z0 : n0 ≤ h0.size) (f3 : Exa Z h0 a1 cC3) (f5 : Sta Z Z.heap "java/lang/String" "COMPACT_STRINGS" "Z" (.int p4)) (f6 : Old Z n0 h0) (f7 : ¬ (p4 = (0 : Int32))) (f8 : Fld Z h0 a1 cC3 "coder" "B" (VI 0)) (f11 : Fld Z h0 a1 cC3 "value" "[B" (VR a10)) (f15 : Arv Z h0 a10 k13 .byte 1 [VI p14] (VI 0)) (f17 : ¬ (p2 < (0 : Int32))) (f18 : ¬ ((255 : Int32) < p2)) :
    MetFree l yM15 (head1 (Jvm.Cond.code yM15 jdk_42_method_80_code 3 (some .int) :: ws) ({ frames := 2, cells := 0, slots := 0, locals := 32 } : Room)) (fun a U => a = #[(.ref a1), (.int p2), (.int (0 : Int32))] ∧ Z.Warmed39 U.vm ∧ U.heap = h0) (fun _ _ _ _ _ => True) (fun _ U o U' => ∃ v L, o = .returned v ∧ Q11_2 Z a1 p2 p4 a10 k13 p14 h0 n0 v U'.heap L ∧ FrameEnd U o U' L ({ frames := 2, cells := 0, slots := 0, locals := 32 } : Room).cells ({ frames := 2, cells := 0, slots := 0, locals := 32 } : Room).slots) := by
  refine own_enter (n0 := n0) (plainFor_of_name pn3) (fun m => ef11_2 m a1 p2) ?_
  intro p e s m below meth c s₁ hx hby hml hown hnm hret hlk X0 e0 hZ hh N0
  show own_Fin p e below _ s₁ (mkF m 0 #[SR a1, SI p2, SI 0] [])
  refine own_go (fun _ k => XS.aloadN X0.here hx rfl (hb hby d11_0) rfl rfl k) ?_
  show own_Fin p e below _ s₁ (mkF m 1 #[SR a1, SI p2, SI 0] [VR a1])
  obtain ⟨_, T9, L9, X9, hQ9, st9⟩ := own_cV X0 hx hZ hown (WW hw 67) (WW hw 68) (notFace_of_selects (args := #[]) (mvT hZ (WW hw 70))) (WW hw 70) (WW hw 69) (WW hw 12) (WW hw 71) (rm12_1 l Z a0 hw [] a1 p4 h0 n0 Z0 f5 f6 f7 f8) e0 f3 hml (g := (mkF m 1 #[SR a1, SI p2, SI 0] [VR a1])) pd8 (hb hby d11_1) [] [] (W := 0)
  obtain ⟨rfl, N9q, e9⟩ := hQ9
  have N9 := Fr.app N0 N9q
  refine own_go st9 ?_
  show own_Fin p e below _ T9 (mkF m 4 #[SR a1, SI p2, SI 0] [VI 1])
  refine own_go (fun _ k => XS.ifNo X9.here hx rfl (hb hby d11_4) rfl ((if0 _ _).trans (feq (by decide : ¬ ((1 : Int32) = (0 : Int32)))).1) (XS.aloadN X9.here hx rfl (hb hby d11_7) rfl rfl k)) ?_
  show own_Fin p e below _ T9 (mkF m 8 #[SR a1, SI p2, SI 0] [VR a1])
  obtain ⟨T12, X12, e12, st12⟩ := getF X9 hx hZ hown (host := "") (Or.inl (WW hw 30)) Via.refl e9 f11 (g := (mkF m 8 #[SR a1, SI p2, SI 0] [VR a1])) rfl rfl (hb hby d11_8)
  refine own_go st12 ?_
  show own_Fin p e below _ T12 (mkF m 11 #[SR a1, SI p2, SI 0] [VR a10])
  refine own_go (fun _ k => XS.iloadN X12.here hx rfl (hb hby d11_11) rfl (XS.iloadN X12.here hx rfl (hb hby d11_12) rfl (XS.aloadN X12.here hx rfl (hb hby d11_13) rfl rfl k))) ?_
  show own_Fin p e below _ T12 (mkF m 14 #[SR a1, SI p2, SI 0] [VR a1, VI 0, VI p2, VR a10])
  obtain ⟨_, T16, L16, X16, hQ16, st16⟩ := own_cV X12 hx hZ hown (WW hw 73) (WW hw 74) (notFace_of_selects (args := #[]) (mvT hZ (WW hw 76))) (WW hw 76) (WW hw 75) (WW hw 12) (WW hw 77) (rm13_2 l Z a0 hw [] a1 a10 k13 p14 p4 h0 n0 Z0 f11 f15 f3 f5 f6 f7 f8) e12 f3 hml (g := (mkF m 14 #[SR a1, SI p2, SI 0] [VR a1, VI 0, VI p2, VR a10])) pd10 (hb hby d11_14) [] [VI 0, VI p2, VR a10] (W := 3)
  obtain ⟨rfl, N16q, e16⟩ := hQ16
  have N16 := Fr.app N9 N16q
  refine own_go st16 ?_
  show own_Fin p e below _ T16 (mkF m 17 #[SR a1, SI p2, SI 0] [VI 1, VI 0, VI p2, VR a10])
  obtain ⟨_, T19, L19, X19, hQ19, st19⟩ := own_cS X16 hx hZ hown (WW hw 83) (WW hw 84) (WW hw 85) (WW hw 86) (rm15_2 l Z a0 hw [] a10 p2 k13 p14 h0 n0 Z0 f17 f18 f15) e16 hml (g := (mkF m 17 #[SR a1, SI p2, SI 0] [VI 1, VI 0, VI p2, VR a10])) pd12 (hb hby d11_17) [VR a10, VI p2, VI 0, VI 1] [] (W := 0)
  obtain ⟨rfl, N19q, e19⟩ := hQ19
  have N19 := Fr.app N16 N19q
  refine own_go st19 ?_
  show own_Fin p e below _ T19 (mkF m 20 #[SR a1, SI p2, SI 0] [VI (own_f23_m12 p2 p14)])
  refine own_go (fun _ k => XS.goto X19.here hx rfl (pc0 := 20) (pc' := 36) rfl (hb hby d11_20) (by decide) (by decide) k) ?_
  show own_Fin p e below _ T19 (mkF m 36 #[SR a1, SI p2, SI 0] [VI (own_f23_m12 p2 p14)])
  obtain ⟨fs, hr, hrun, hended, hW, hsame⟩ := X19.leave (v := some (.int (own_f23_m12 p2 p14))) (fun h => by rw [hret] at h; cases h)
  refine own_end (retOut X19 hx hret rfl (Or.inl ⟨rfl, Or.inl rfl, _, rfl⟩) (hb hby d11_36) hr) hrun hended ⟨_, _, rfl, ?_, ⟨_, rfl⟩, hW, hsame.mono (by decide) (by decide)⟩
  show Q11_2 Z a1 p2 p4 a10 k13 p14 h0 n0 _ T19.heap _
  rw [e19]
  exact ⟨rfl, N19, rfl⟩
theorem ef10_2 (m : MethodId) (a1 : Addr) (p2 : Int32) : entryFrame m #[(.ref a1), (.int p2)] 2 = mkF m 0 #[SR a1, SI p2] [] := by first | (simp [entryFrame, mkF, argsToLocals, Value.category]; done) | rfl
def Q10_2 (Z : State) (a1 : Addr) (p2 : Int32) (p4 : Int32) (a9 : Addr) (k11 : ClassId) (p12 : Int32) (h0 : Heap) (n0 : Nat) (v : Option Value) (h : Heap) (L : List Loc) : Prop := v = some (.int (own_f23_m12 p2 p12)) ∧ Fr n0 L ∧ h = h0
set_option maxRecDepth 65536 in
set_option maxHeartbeats 40000000 in
theorem rm10_2 (l : Launch) (Z : State) (a0 : Array Value) (hw : HW a0 Z) (ws : List Jvm.Cond) (a1 : Addr) (p2 : Int32) (p4 : Int32) (a9 : Addr) (k11 : ClassId) (p12 : Int32) (h0 : Heap) (n0 : Nat) (Z0 : n0 ≤ h0.size) (f3 : Exa Z h0 a1 cC3) (f5 : Sta Z Z.heap "java/lang/String" "COMPACT_STRINGS" "Z" (.int p4)) (f6 : Old Z n0 h0) (f7 : ¬ (p4 = (0 : Int32))) (f8 : Fld Z h0 a1 cC3 "coder" "B" (VI 0)) (f10 : Fld Z h0 a1 cC3 "value" "[B" (VR a9)) (f13 : Arv Z h0 a9 k11 .byte 1 [VI p12] (VI 0)) (f14 : ¬ (p2 < (0 : Int32))) (f15 : ¬ ((255 : Int32) < p2)) :
    MetFree l yM16 (head1 (Jvm.Cond.code yM16 jdk_42_method_79_code 2 (some .int) :: ws) ({ frames := 3, cells := 0, slots := 0, locals := 46 } : Room)) (fun a U => a = #[(.ref a1), (.int p2)] ∧ Z.Warmed39 U.vm ∧ U.heap = h0) (fun _ _ _ _ _ => True) (fun _ U o U' => ∃ v L, o = .returned v ∧ Q10_2 Z a1 p2 p4 a9 k11 p12 h0 n0 v U'.heap L ∧ FrameEnd U o U' L ({ frames := 3, cells := 0, slots := 0, locals := 46 } : Room).cells ({ frames := 3, cells := 0, slots := 0, locals := 46 } : Room).slots) := by
  refine own_enter (n0 := n0) (plainFor_of_name pn3) (fun m => ef10_2 m a1 p2) ?_
  intro p e s m below meth c s₁ hx hby hml hown hnm hret hlk X0 e0 hZ hh N0
  show own_Fin p e below _ s₁ (mkF m 0 #[SR a1, SI p2] [])
  refine own_go (fun _ k => XS.aloadN X0.here hx rfl (hb hby d10_0) rfl rfl (XS.iloadN X0.here hx rfl (hb hby d10_1) rfl (XS.iconst X0.here hx rfl (hb hby d10_2) k))) ?_
  show own_Fin p e below _ s₁ (mkF m 3 #[SR a1, SI p2] [VI 0, VI p2, VR a1])
  obtain ⟨_, T16, L16, X16, hQ16, st16⟩ := own_cV X0 hx hZ hown (WW hw 62) (WW hw 63) (notFace_of_selects (args := #[]) (mvT hZ (WW hw 65))) (WW hw 65) (WW hw 64) (WW hw 12) (WW hw 66) (rm11_2 l Z a0 hw [] a1 p2 p4 a9 k11 p12 h0 n0 Z0 f3 f5 f6 f7 f8 f10 f13 f14 f15) e0 f3 hml (g := (mkF m 3 #[SR a1, SI p2] [VI 0, VI p2, VR a1])) pd11 (hb hby d10_3) [VI p2, VI 0] [] (W := 0)
  obtain ⟨rfl, N16q, e16⟩ := hQ16
  have N16 := Fr.app N0 N16q
  refine own_go st16 ?_
  show own_Fin p e below _ T16 (mkF m 6 #[SR a1, SI p2] [VI (own_f23_m12 p2 p12)])
  obtain ⟨fs, hr, hrun, hended, hW, hsame⟩ := X16.leave (v := some (.int (own_f23_m12 p2 p12))) (fun h => by rw [hret] at h; cases h)
  refine own_end (retOut X16 hx hret rfl (Or.inl ⟨rfl, Or.inl rfl, _, rfl⟩) (hb hby d10_6) hr) hrun hended ⟨_, _, rfl, ?_, ⟨_, rfl⟩, hW, hsame.mono (by decide) (by decide)⟩
  show Q10_2 Z a1 p2 p4 a9 k11 p12 h0 n0 _ T16.heap _
  rw [e16]
  exact ⟨rfl, N16, rfl⟩
theorem own_link_23_m12_8_m8 (x : Int32) : ((own_f8_m8 x) = (0 : Int32) → ¬ (own_f23_m12 (63 : Int32) ((nar .char (own_f19_m4 x)).toInt8.toInt32)) < (0 : Int32)) ∧ (¬ (own_f8_m8 x) = (0 : Int32) → (own_f23_m12 (63 : Int32) ((nar .char (own_f19_m4 x)).toInt8.toInt32)) < (0 : Int32)) := by
  rcases Classical.em (own_f19_m4 x = (63 : Int32)) with a0 | a0 <;> simp [own_f23_m12, own_f8_m8, (by decide : ((63 : Int32).toInt8.toInt32) = (63 : Int32)), (by decide : (nar .char (63 : Int32)).toInt8.toInt32 = (63 : Int32)), own_b63_19_m4, a0]
theorem ef9_2 (m : MethodId) (a1 : Addr) : entryFrame m #[(.ref a1)] 1 = mkF m 0 #[SR a1] [] := by first | (simp [entryFrame, mkF, argsToLocals, Value.category]; done) | rfl
def Q9_2 (Z : State) (a1 : Addr) (a2 : Addr) (p6 : Int32) (a11 : Addr) (k13 : ClassId) (a16 : Addr) (a21 : Addr) (k23 : ClassId) (p24 : Int32) (h0 : Heap) (n0 : Nat) (v : Option Value) (h : Heap) (L : List Loc) : Prop := v = some (.int (0 : Int32)) ∧ Fr n0 L ∧ h = h0
set_option maxRecDepth 65536 in
set_option maxHeartbeats 40000000 in
theorem rm9_2 (l : Launch) (Z : State) (a0 : Array Value) (hw : HW a0 Z) (ws : List Jvm.Cond) (a1 : Addr) (a2 : Addr) (p6 : Int32) (a11 : Addr) (k13 : ClassId) (a16 : Addr) (a21 : Addr) (k23 : ClassId) (p24 : Int32) (h0 : Heap) (n0 : Nat) (Z0 : n0 ≤ h0.size) (f3 : Fld Z h0 a1 cC0 "article" cC1 (VR a2)) (f5 : Exa Z h0 a2 cC3) (f7 : Sta Z Z.heap "java/lang/String" "COMPACT_STRINGS" "Z" (.int p6)) (f8 : Old Z n0 h0) (f9 : ¬ (p6 = (0 : Int32))) (f10 : Fld Z h0 a2 cC3 "coder" "B" (VI 0)) (f12 : Fld Z h0 a2 cC3 "value" "[B" (VR a11)) (f14 : Arv Z h0 a11 k13 .byte 0 [] (VI 0)) (f17 : Fld Z h0 a1 cC0 "clause" cC1 (VR a16)) (f19 : Exa Z h0 a16 cC3) (f20 : Fld Z h0 a16 cC3 "coder" "B" (VI 0)) (f22 : Fld Z h0 a16 cC3 "value" "[B" (VR a21)) (f25 : Arv Z h0 a21 k23 .byte 1 [VI p24] (VI 0)) (f27 : ¬ ((own_f23_m12 (63 : Int32) p24) < (0 : Int32))) :
    MetFree l yM17 (head1 (Jvm.Cond.code yM17 prog_105_method_2_code 1 (some .boolean) :: ws) ({ frames := 4, cells := 0, slots := 0, locals := 59 } : Room)) (fun a U => a = #[(.ref a1)] ∧ Z.Warmed39 U.vm ∧ U.heap = h0) (fun _ _ _ _ _ => True) (fun _ U o U' => ∃ v L, o = .returned v ∧ Q9_2 Z a1 a2 p6 a11 k13 a16 a21 k23 p24 h0 n0 v U'.heap L ∧ FrameEnd U o U' L ({ frames := 4, cells := 0, slots := 0, locals := 59 } : Room).cells ({ frames := 4, cells := 0, slots := 0, locals := 59 } : Room).slots) := by
  refine own_enter (n0 := n0) (plainFor_of_name pn6) (fun m => ef9_2 m a1) ?_
  intro p e s m below meth c s₁ hx hby hml hown hnm hret hlk X0 e0 hZ hh N0
  show own_Fin p e below _ s₁ (mkF m 0 #[SR a1] [])
  refine own_go (fun _ k => XS.aloadN X0.here hx rfl (hb hby d9_0) rfl rfl k) ?_
  show own_Fin p e below _ s₁ (mkF m 1 #[SR a1] [VR a1])
  obtain ⟨T4, X4, e4, st4⟩ := getF X0 hx hZ hown (host := "") (Or.inl (WW hw 43)) Via.refl e0 f3 (g := (mkF m 1 #[SR a1] [VR a1])) rfl rfl (hb hby d9_1)
  refine own_go st4 ?_
  show own_Fin p e below _ T4 (mkF m 4 #[SR a1] [VR a2])
  refine own_go (fun _ k => XS.bipush X4.here hx rfl (hb hby d9_4) k) ?_
  show own_Fin p e below _ T4 (mkF m 6 #[SR a1] [VI 63, VR a2])
  obtain ⟨_, T15, L15, X15, hQ15, st15⟩ := own_cV X4 hx hZ hown (WW hw 57) (WW hw 58) (notFace_of_selects (args := #[]) (mvT hZ (WW hw 60))) (WW hw 60) (WW hw 59) (WW hw 12) (WW hw 61) (rm10_1 l Z a0 hw [] a2 (63 : Int32) p6 a11 k13 h0 n0 Z0 f5 f7 f8 f9 f10 f12 f14 (by decide : ¬ ((63 : Int32) < (0 : Int32))) (by decide : ¬ ((255 : Int32) < (63 : Int32)))) e4 f5 hml (g := (mkF m 6 #[SR a1] [VI 63, VR a2])) pd0 (hb hby d9_6) [VI 63] [] (W := 0)
  obtain ⟨rfl, N15q, e15⟩ := hQ15
  have N15 := Fr.app N0 N15q
  refine own_go st15 ?_
  show own_Fin p e below _ T15 (mkF m 9 #[SR a1] [VI (-1)])
  refine own_go (fun _ k => XS.ifNo X15.here hx rfl (hb hby d9_9) rfl ((if0 _ _).trans (tlt (by decide : (-1 : Int32) < (0 : Int32))).2.1) (XS.aloadN X15.here hx rfl (hb hby d9_12) rfl rfl k)) ?_
  show own_Fin p e below _ T15 (mkF m 13 #[SR a1] [VR a1])
  obtain ⟨T18, X18, e18, st18⟩ := getF X15 hx hZ hown (host := "") (Or.inl (WW hw 45)) Via.refl e15 f17 (g := (mkF m 13 #[SR a1] [VR a1])) rfl rfl (hb hby d9_13)
  refine own_go st18 ?_
  show own_Fin p e below _ T18 (mkF m 16 #[SR a1] [VR a16])
  refine own_go (fun _ k => XS.bipush X18.here hx rfl (hb hby d9_16) k) ?_
  show own_Fin p e below _ T18 (mkF m 18 #[SR a1] [VI 63, VR a16])
  obtain ⟨_, T26, L26, X26, hQ26, st26⟩ := own_cV X18 hx hZ hown (WW hw 57) (WW hw 58) (notFace_of_selects (args := #[]) (mvT hZ (WW hw 60))) (WW hw 60) (WW hw 59) (WW hw 12) (WW hw 61) (rm10_2 l Z a0 hw [] a16 (63 : Int32) p6 a21 k23 p24 h0 n0 Z0 f19 f7 f8 f9 f20 f22 f25 (by decide : ¬ ((63 : Int32) < (0 : Int32))) (by decide : ¬ ((255 : Int32) < (63 : Int32)))) e18 f19 hml (g := (mkF m 18 #[SR a1] [VI 63, VR a16])) pd0 (hb hby d9_18) [VI 63] [] (W := 0)
  obtain ⟨rfl, N26q, e26⟩ := hQ26
  have N26 := Fr.app N15 N26q
  refine own_go st26 ?_
  show own_Fin p e below _ T26 (mkF m 21 #[SR a1] [VI (own_f23_m12 (63 : Int32) p24)])
  refine own_go (fun _ k => XS.ifYes X26.here hx rfl (pc0 := 21) (pc' := 28) rfl (hb hby d9_21) rfl ((if0 _ _).trans (flt f27).2.1) (by decide) (by decide) (XS.iconst X26.here hx rfl (hb hby d9_28) k)) ?_
  show own_Fin p e below _ T26 (mkF m 29 #[SR a1] [VI 0])
  obtain ⟨fs, hr, hrun, hended, hW, hsame⟩ := X26.leave (v := some (.int (0 : Int32))) (fun h => by rw [hret] at h; cases h)
  refine own_end (retN X26 hx (t := .boolean) hret (by simp) (hb hby d9_29) hr) hrun hended ⟨_, _, rfl, ?_, ⟨_, rfl⟩, hW, hsame.mono (by decide) (by decide)⟩
  show Q9_2 Z a1 a2 p6 a11 k13 a16 a21 k23 p24 h0 n0 _ T26.heap _
  rw [e26]
  exact ⟨rfl, N26, rfl⟩
theorem ef9_3 (m : MethodId) (a1 : Addr) : entryFrame m #[(.ref a1)] 1 = mkF m 0 #[SR a1] [] := by first | (simp [entryFrame, mkF, argsToLocals, Value.category]; done) | rfl
def Q9_3 (Z : State) (a1 : Addr) (a2 : Addr) (p6 : Int32) (a11 : Addr) (k13 : ClassId) (a16 : Addr) (a21 : Addr) (k23 : ClassId) (p24 : Int32) (h0 : Heap) (n0 : Nat) (v : Option Value) (h : Heap) (L : List Loc) : Prop := v = some (.int (1 : Int32)) ∧ Fr n0 L ∧ h = h0
set_option maxRecDepth 65536 in
set_option maxHeartbeats 40000000 in
theorem rm9_3 (l : Launch) (Z : State) (a0 : Array Value) (hw : HW a0 Z) (ws : List Jvm.Cond) (a1 : Addr) (a2 : Addr) (p6 : Int32) (a11 : Addr) (k13 : ClassId) (a16 : Addr) (a21 : Addr) (k23 : ClassId) (p24 : Int32) (h0 : Heap) (n0 : Nat) (Z0 : n0 ≤ h0.size) (f3 : Fld Z h0 a1 cC0 "article" cC1 (VR a2)) (f5 : Exa Z h0 a2 cC3) (f7 : Sta Z Z.heap "java/lang/String" "COMPACT_STRINGS" "Z" (.int p6)) (f8 : Old Z n0 h0) (f9 : ¬ (p6 = (0 : Int32))) (f10 : Fld Z h0 a2 cC3 "coder" "B" (VI 0)) (f12 : Fld Z h0 a2 cC3 "value" "[B" (VR a11)) (f14 : Arv Z h0 a11 k13 .byte 0 [] (VI 0)) (f17 : Fld Z h0 a1 cC0 "clause" cC1 (VR a16)) (f19 : Exa Z h0 a16 cC3) (f20 : Fld Z h0 a16 cC3 "coder" "B" (VI 0)) (f22 : Fld Z h0 a16 cC3 "value" "[B" (VR a21)) (f25 : Arv Z h0 a21 k23 .byte 1 [VI p24] (VI 0)) (f27 : (own_f23_m12 (63 : Int32) p24) < (0 : Int32)) :
    MetFree l yM17 (head1 (Jvm.Cond.code yM17 prog_105_method_2_code 1 (some .boolean) :: ws) ({ frames := 4, cells := 0, slots := 0, locals := 59 } : Room)) (fun a U => a = #[(.ref a1)] ∧ Z.Warmed39 U.vm ∧ U.heap = h0) (fun _ _ _ _ _ => True) (fun _ U o U' => ∃ v L, o = .returned v ∧ Q9_3 Z a1 a2 p6 a11 k13 a16 a21 k23 p24 h0 n0 v U'.heap L ∧ FrameEnd U o U' L ({ frames := 4, cells := 0, slots := 0, locals := 59 } : Room).cells ({ frames := 4, cells := 0, slots := 0, locals := 59 } : Room).slots) := by
  refine own_enter (n0 := n0) (plainFor_of_name pn6) (fun m => ef9_3 m a1) ?_
  intro p e s m below meth c s₁ hx hby hml hown hnm hret hlk X0 e0 hZ hh N0
  show own_Fin p e below _ s₁ (mkF m 0 #[SR a1] [])
  refine own_go (fun _ k => XS.aloadN X0.here hx rfl (hb hby d9_0) rfl rfl k) ?_
  show own_Fin p e below _ s₁ (mkF m 1 #[SR a1] [VR a1])
  obtain ⟨T4, X4, e4, st4⟩ := getF X0 hx hZ hown (host := "") (Or.inl (WW hw 43)) Via.refl e0 f3 (g := (mkF m 1 #[SR a1] [VR a1])) rfl rfl (hb hby d9_1)
  refine own_go st4 ?_
  show own_Fin p e below _ T4 (mkF m 4 #[SR a1] [VR a2])
  refine own_go (fun _ k => XS.bipush X4.here hx rfl (hb hby d9_4) k) ?_
  show own_Fin p e below _ T4 (mkF m 6 #[SR a1] [VI 63, VR a2])
  obtain ⟨_, T15, L15, X15, hQ15, st15⟩ := own_cV X4 hx hZ hown (WW hw 57) (WW hw 58) (notFace_of_selects (args := #[]) (mvT hZ (WW hw 60))) (WW hw 60) (WW hw 59) (WW hw 12) (WW hw 61) (rm10_1 l Z a0 hw [] a2 (63 : Int32) p6 a11 k13 h0 n0 Z0 f5 f7 f8 f9 f10 f12 f14 (by decide : ¬ ((63 : Int32) < (0 : Int32))) (by decide : ¬ ((255 : Int32) < (63 : Int32)))) e4 f5 hml (g := (mkF m 6 #[SR a1] [VI 63, VR a2])) pd0 (hb hby d9_6) [VI 63] [] (W := 0)
  obtain ⟨rfl, N15q, e15⟩ := hQ15
  have N15 := Fr.app N0 N15q
  refine own_go st15 ?_
  show own_Fin p e below _ T15 (mkF m 9 #[SR a1] [VI (-1)])
  refine own_go (fun _ k => XS.ifNo X15.here hx rfl (hb hby d9_9) rfl ((if0 _ _).trans (tlt (by decide : (-1 : Int32) < (0 : Int32))).2.1) (XS.aloadN X15.here hx rfl (hb hby d9_12) rfl rfl k)) ?_
  show own_Fin p e below _ T15 (mkF m 13 #[SR a1] [VR a1])
  obtain ⟨T18, X18, e18, st18⟩ := getF X15 hx hZ hown (host := "") (Or.inl (WW hw 45)) Via.refl e15 f17 (g := (mkF m 13 #[SR a1] [VR a1])) rfl rfl (hb hby d9_13)
  refine own_go st18 ?_
  show own_Fin p e below _ T18 (mkF m 16 #[SR a1] [VR a16])
  refine own_go (fun _ k => XS.bipush X18.here hx rfl (hb hby d9_16) k) ?_
  show own_Fin p e below _ T18 (mkF m 18 #[SR a1] [VI 63, VR a16])
  obtain ⟨_, T26, L26, X26, hQ26, st26⟩ := own_cV X18 hx hZ hown (WW hw 57) (WW hw 58) (notFace_of_selects (args := #[]) (mvT hZ (WW hw 60))) (WW hw 60) (WW hw 59) (WW hw 12) (WW hw 61) (rm10_2 l Z a0 hw [] a16 (63 : Int32) p6 a21 k23 p24 h0 n0 Z0 f19 f7 f8 f9 f20 f22 f25 (by decide : ¬ ((63 : Int32) < (0 : Int32))) (by decide : ¬ ((255 : Int32) < (63 : Int32)))) e18 f19 hml (g := (mkF m 18 #[SR a1] [VI 63, VR a16])) pd0 (hb hby d9_18) [VI 63] [] (W := 0)
  obtain ⟨rfl, N26q, e26⟩ := hQ26
  have N26 := Fr.app N15 N26q
  refine own_go st26 ?_
  show own_Fin p e below _ T26 (mkF m 21 #[SR a1] [VI (own_f23_m12 (63 : Int32) p24)])
  refine own_go (fun _ k => XS.ifNo X26.here hx rfl (hb hby d9_21) rfl ((if0 _ _).trans (tlt f27).2.1) (XS.iconst X26.here hx rfl (hb hby d9_24) (XS.goto X26.here hx rfl (pc0 := 25) (pc' := 29) rfl (hb hby d9_25) (by decide) (by decide) k))) ?_
  show own_Fin p e below _ T26 (mkF m 29 #[SR a1] [VI 1])
  obtain ⟨fs, hr, hrun, hended, hW, hsame⟩ := X26.leave (v := some (.int (1 : Int32))) (fun h => by rw [hret] at h; cases h)
  refine own_end (retN X26 hx (t := .boolean) hret (by simp) (hb hby d9_29) hr) hrun hended ⟨_, _, rfl, ?_, ⟨_, rfl⟩, hW, hsame.mono (by decide) (by decide)⟩
  show Q9_3 Z a1 a2 p6 a11 k13 a16 a21 k23 p24 h0 n0 _ T26.heap _
  rw [e26]
  exact ⟨rfl, N26, rfl⟩
theorem ef1_4 (m : MethodId) (p1 : Int32) : entryFrame m #[(.int p1)] 2 = mkF m 0 #[SI p1, SU] [] := by first | (simp [entryFrame, mkF, argsToLocals, Value.category]; done) | rfl
def Q1_4 (Z : State) (p1 : Int32) (p27 : Int32) (h0 : Heap) (n0 : Nat) (v : Option Value) (h : Heap) (L : List Loc) : Prop := ∃ (b6 : Addr) (t22 : Addr) (kb22 : ClassId), v = some (.ref b6) ∧ Fr n0 L ∧ Keep h0 h [] ∧ h0.size ≤ b6 ∧ h0.size ≤ t22 ∧ b6 ≠ t22 ∧ Exa Z h b6 cC3 ∧ Fld Z h b6 cC3 "coder" "B" (VI 0) ∧ Fld Z h b6 cC3 "value" "[B" (VR t22) ∧ Arv Z h t22 kb22 .byte 2 [VI ((nar .char (own_f19_m4 p1)).toInt8.toInt32), VI ((nar .char (own_f19_m5 p1)).toInt8.toInt32)] (VI 0)
set_option maxRecDepth 65536 in
set_option maxHeartbeats 40000000 in
theorem rm1_4 (l : Launch) (Z : State) (a0 : Array Value) (hw : HW a0 Z) (ws : List Jvm.Cond) (p1 : Int32) (p27 : Int32) (h0 : Heap) (n0 : Nat) (Z0 : n0 ≤ h0.size) (f3 : ¬ ((((p1.toUInt32 >>> ((24 : Int32) &&& 31).toUInt32).toInt32) &&& (3 : Int32)) = (0 : Int32))) (f4 : ¬ ((((p1.toUInt32 >>> ((24 : Int32) &&& 31).toUInt32).toInt32) &&& (3 : Int32)) = (1 : Int32))) (f5 : (((p1.toUInt32 >>> ((24 : Int32) &&& 31).toUInt32).toInt32) &&& (3 : Int32)) = (2 : Int32)) (f28 : Sta Z Z.heap "java/lang/String" "COMPACT_STRINGS" "Z" (.int p27)) (f29 : Old Z n0 h0) (f31 : ¬ (p27 = (0 : Int32))) :
    MetFree l yM4 (head1 (Jvm.Cond.code yM4 method_5_code 2 (some (.object "java/lang/String")) :: ws) ({ frames := 4, cells := 3, slots := 8, locals := 66 } : Room)) (fun a U => a = #[(.int p1)] ∧ Z.Warmed39 U.vm ∧ U.heap = h0) (fun _ _ _ _ _ => True) (fun _ U o U' => ∃ v L, o = .returned v ∧ Q1_4 Z p1 p27 h0 n0 v U'.heap L ∧ FrameEnd U o U' L ({ frames := 4, cells := 3, slots := 8, locals := 66 } : Room).cells ({ frames := 4, cells := 3, slots := 8, locals := 66 } : Room).slots) := by
  refine own_enter (n0 := n0) (plainFor_of_name pn0) (fun m => ef1_4 m p1) ?_
  intro p e s m below meth c s₁ hx hby hml hown hnm hret hlk X0 e0 hZ hh N0
  show own_Fin p e below _ s₁ (mkF m 0 #[SI p1, SU] [])
  refine own_go (fun _ k => XS.iloadN X0.here hx rfl (hb hby d1_0) rfl k) ?_
  show own_Fin p e below _ s₁ (mkF m 1 #[SI p1, SU] [VI p1])
  obtain ⟨_, T2, L2, X2, hQ2, st2⟩ := own_cS X0 hx hZ hown (WW hw 7) (WW hw 8) (WW hw 5) (WW hw 9) (rm2_1 l Z a0 hw [] p1 h0 n0 Z0 ) e0 hml (g := (mkF m 1 #[SI p1, SU] [VI p1])) pd0 (hb hby d1_1) [VI p1] [] (W := 0)
  obtain ⟨rfl, N2q, e2⟩ := hQ2
  have N2 := Fr.app N0 N2q
  refine own_go st2 ?_
  show own_Fin p e below _ T2 (mkF m 4 #[SI p1, SU] [VI (((p1.toUInt32 >>> ((24 : Int32) &&& 31).toUInt32).toInt32) &&& (3 : Int32))])
  refine own_go (fun _ k => XS.istoreN X2.here hx rfl (hb hby d1_4) rfl (l' := #[SI p1, SI (((p1.toUInt32 >>> ((24 : Int32) &&& 31).toUInt32).toInt32) &&& (3 : Int32))]) rfl (XS.iloadN X2.here hx rfl (hb hby d1_5) rfl (XS.ifYes X2.here hx rfl (pc0 := 6) (pc' := 20) rfl (hb hby d1_6) rfl ((if0 _ _).trans (feq f3).2) (by decide) (by decide) (XS.iloadN X2.here hx rfl (hb hby d1_20) rfl (XS.iconst X2.here hx rfl (hb hby d1_21) (XS.icmpYes X2.here hx rfl (pc0 := 22) (pc' := 44) rfl (hb hby d1_22) rfl (feq f4).2 (by decide) (by decide) (XS.iloadN X2.here hx rfl (hb hby d1_44) rfl (XS.iconst X2.here hx rfl (hb hby d1_45) (XS.icmpNo X2.here hx rfl (hb hby d1_46) rfl (teq f5).2 k))))))))) ?_
  show own_Fin p e below _ T2 (mkF m 49 #[SI p1, SI (((p1.toUInt32 >>> ((24 : Int32) &&& 31).toUInt32).toInt32) &&& (3 : Int32))] [])
  obtain ⟨T6, h6, X6, e6, E6, A6, D6, -, st6⟩ := newO X2 hx hZ hown (WW hw 10) (WW hw 11) (WW hw 12) e2 (g := (mkF m 49 #[SI p1, SI (((p1.toUInt32 >>> ((24 : Int32) &&& 31).toUInt32).toInt32) &&& (3 : Int32))] [])) rfl (hb hby d1_49) (by decide) (by decide)
  obtain ⟨b6, g6⟩ : ∃ z, z = h0.size := ⟨_, rfl⟩
  rw [← g6] at A6 D6 st6
  have F7 : Fld Z h6 b6 cC3 "value" "[B" (.null) := D6 (Or.inr (WW hw 26)) (ty := (.array .byte)) (by decide)
  have F8 : Fld Z h6 b6 cC3 "coder" "B" (VI 0) := D6 (Or.inr (WW hw 27)) (ty := .byte) (by decide)
  refine own_go st6 ?_
  show own_Fin p e below _ T6 (mkF m 52 #[SI p1, SI (((p1.toUInt32 >>> ((24 : Int32) &&& 31).toUInt32).toInt32) &&& (3 : Int32))] [VR b6])
  refine own_go (fun _ k => XS.dup X6.here hx rfl (hb hby d1_52) rfl rfl (XS.iconst X6.here hx rfl (hb hby d1_53) k)) ?_
  show own_Fin p e below _ T6 (mkF m 54 #[SI p1, SI (((p1.toUInt32 >>> ((24 : Int32) &&& 31).toUInt32).toInt32) &&& (3 : Int32))] [VI 2, VR b6, VR b6])
  obtain ⟨T9, h9, k9, X9, e9, E9, A9, st9⟩ := newP X6 hx hZ (WW hw 13) e6 (g := (mkF m 54 #[SI p1, SI (((p1.toUInt32 >>> ((24 : Int32) &&& 31).toUInt32).toInt32) &&& (3 : Int32))] [VI 2, VR b6, VR b6])) rfl (hb hby d1_54) rfl (by decide) (cap := 2) (by decide) (by decide) (by decide) (by decide)
  obtain ⟨b9, g9⟩ : ∃ z, z = h6.size := ⟨_, rfl⟩
  rw [← g9] at A9 st9
  have V9 : Arv Z h9 b9 k9 .char 2 [VI 0, VI 0] (VI 0) := (Arv.new A9 (by decide)).pad (pad_rep [] (.int (0 : Int32)) 2)
  refine own_go st9 ?_
  show own_Fin p e below _ T9 (mkF m 56 #[SI p1, SI (((p1.toUInt32 >>> ((24 : Int32) &&& 31).toUInt32).toInt32) &&& (3 : Int32))] [VR b9, VR b6, VR b6])
  refine own_go (fun _ k => XS.dup X9.here hx rfl (hb hby d1_56) rfl rfl (XS.iconst X9.here hx rfl (hb hby d1_57) (XS.iloadN X9.here hx rfl (hb hby d1_58) rfl (XS.iconst X9.here hx rfl (hb hby d1_59) k)))) ?_
  show own_Fin p e below _ T9 (mkF m 60 #[SI p1, SI (((p1.toUInt32 >>> ((24 : Int32) &&& 31).toUInt32).toInt32) &&& (3 : Int32))] [VI 0, VI p1, VI 0, VR b9, VR b9, VR b6, VR b6])
  have z11 : h0.size ≤ h6.size := E6.1
  have z12 : h0.size ≤ h9.size := Nat.le_trans z11 E9.1
  obtain ⟨_, T10, L10, X10, hQ10, st10⟩ := own_cS X9 hx hZ hown (WW hw 97) (WW hw 98) (WW hw 5) (WW hw 99) (rm19_m4 l Z a0 hw [] p1 h9 n0 (Nat.le_trans Z0 z12) ) e9 hml (g := (mkF m 60 #[SI p1, SI (((p1.toUInt32 >>> ((24 : Int32) &&& 31).toUInt32).toInt32) &&& (3 : Int32))] [VI 0, VI p1, VI 0, VR b9, VR b9, VR b6, VR b6])) pd3 (hb hby d1_60) [VI p1, VI 0] [VI 0, VR b9, VR b9, VR b6, VR b6] (W := 5)
  obtain ⟨rfl, N10q, e10⟩ := hQ10
  have N10 := Fr.app N2 N10q
  refine own_go st10 ?_
  show own_Fin p e below _ T10 (mkF m 63 #[SI p1, SI (((p1.toUInt32 >>> ((24 : Int32) &&& 31).toUInt32).toInt32) &&& (3 : Int32))] [VI (own_f19_m4 p1), VI 0, VR b9, VR b9, VR b6, VR b6])
  obtain ⟨cl13, Ar13, q13, Sz13, Nn13, Hs13, Gg13⟩ := id V9
  have i14 : ¬ ((0 : Int32) < 0 ∨ cl13.slots.size ≤ ((0 : Int32)).toNatClampNeg) := inb_of Sz13 ⟨(by decide : ¬ ((0 : Int32) < (0 : Int32))), (by decide : (0 : Int32) < (2 : Int32))⟩
  obtain ⟨T15, h15, X15, e15, W15, st15⟩ := stC X10 hx hZ e10 Ar13 (j := (0 : Int32)) i14 (g := (mkF m 63 #[SI p1, SI (((p1.toUInt32 >>> ((24 : Int32) &&& 31).toUInt32).toInt32) &&& (3 : Int32))] [VI (own_f19_m4 p1), VI 0, VR b9, VR b9, VR b6, VR b6])) rfl rfl (hb hby d1_63)
  have u16 : n0 ≤ b9 := Nat.le_trans Z0 (Nat.le_trans z11 (Nat.le_of_eq g9.symm))
  have N15 := Fr.snoc X15 N10 u16
  have V15 : Arv Z h15 b9 k9 .char 2 [VI (nar .char (own_f19_m4 p1)), VI 0] (VI 0) := Arv.set Ar13 q13 Sz13 Nn13 Hs13 Gg13 (fits_nar_char _) W15 0 rfl (Nat.le_of_ble_eq_true rfl)
  refine own_go st15 ?_
  show own_Fin p e below _ T15 (mkF m 64 #[SI p1, SI (((p1.toUInt32 >>> ((24 : Int32) &&& 31).toUInt32).toInt32) &&& (3 : Int32))] [VR b9, VR b6, VR b6])
  refine own_go (fun _ k => XS.dup X15.here hx rfl (hb hby d1_64) rfl rfl (XS.iconst X15.here hx rfl (hb hby d1_65) (XS.iloadN X15.here hx rfl (hb hby d1_66) rfl (XS.iconst X15.here hx rfl (hb hby d1_67) k)))) ?_
  show own_Fin p e below _ T15 (mkF m 68 #[SI p1, SI (((p1.toUInt32 >>> ((24 : Int32) &&& 31).toUInt32).toInt32) &&& (3 : Int32))] [VI 1, VI p1, VI 1, VR b9, VR b9, VR b6, VR b6])
  have z18 : h0.size ≤ h15.size := Nat.le_trans z12 (Nat.le_of_eq (Wr.size W15).symm)
  obtain ⟨_, T17, L17, X17, hQ17, st17⟩ := own_cS X15 hx hZ hown (WW hw 97) (WW hw 98) (WW hw 5) (WW hw 99) (rm19_m5 l Z a0 hw [] p1 h15 n0 (Nat.le_trans Z0 z18) ) e15 hml (g := (mkF m 68 #[SI p1, SI (((p1.toUInt32 >>> ((24 : Int32) &&& 31).toUInt32).toInt32) &&& (3 : Int32))] [VI 1, VI p1, VI 1, VR b9, VR b9, VR b6, VR b6])) pd3 (hb hby d1_68) [VI p1, VI 1] [VI 1, VR b9, VR b9, VR b6, VR b6] (W := 5)
  obtain ⟨rfl, N17q, e17⟩ := hQ17
  have N17 := Fr.app N15 N17q
  refine own_go st17 ?_
  show own_Fin p e below _ T17 (mkF m 71 #[SI p1, SI (((p1.toUInt32 >>> ((24 : Int32) &&& 31).toUInt32).toInt32) &&& (3 : Int32))] [VI (own_f19_m5 p1), VI 1, VR b9, VR b9, VR b6, VR b6])
  obtain ⟨cl19, Ar19, q19, Sz19, Nn19, Hs19, Gg19⟩ := id V15
  have i20 : ¬ ((1 : Int32) < 0 ∨ cl19.slots.size ≤ ((1 : Int32)).toNatClampNeg) := inb_of Sz19 ⟨(by decide : ¬ ((1 : Int32) < (0 : Int32))), (by decide : (1 : Int32) < (2 : Int32))⟩
  obtain ⟨T21, h21, X21, e21, W21, st21⟩ := stC X17 hx hZ e17 Ar19 (j := (1 : Int32)) i20 (g := (mkF m 71 #[SI p1, SI (((p1.toUInt32 >>> ((24 : Int32) &&& 31).toUInt32).toInt32) &&& (3 : Int32))] [VI (own_f19_m5 p1), VI 1, VR b9, VR b9, VR b6, VR b6])) rfl rfl (hb hby d1_71)
  have N21 := Fr.snoc X21 N17 u16
  have V21 : Arv Z h21 b9 k9 .char 2 [VI (nar .char (own_f19_m4 p1)), VI (nar .char (own_f19_m5 p1))] (VI 0) := Arv.set Ar19 q19 Sz19 Nn19 Hs19 Gg19 (fits_nar_char _) W21 1 rfl (Nat.le_of_ble_eq_true rfl)
  refine own_go st21 ?_
  show own_Fin p e below _ T21 (mkF m 72 #[SI p1, SI (((p1.toUInt32 >>> ((24 : Int32) &&& 31).toUInt32).toInt32) &&& (3 : Int32))] [VR b9, VR b6, VR b6])
  have F23 : Exa Z h21 b6 cC3 := (((A6.ext E9).wr W15).wr W21)
  have v24 : b6 ≠ b9 := Nat.ne_of_lt (Nat.lt_of_lt_of_le A6.lt (Nat.le_of_eq g9.symm))
  have F25 : Fld Z h21 b6 cC3 "value" "[B" (.null) := (((F7.ext E9).other W15 (Or.inl v24)).other W21 (Or.inl v24))
  have F26 : Fld Z h21 b6 cC3 "coder" "B" (VI 0) := (((F8.ext E9).other W15 (Or.inl v24)).other W21 (Or.inl v24))
  have O30 : Old Z n0 h21 := ((((f29.ext E6).ext E9).wr W15 u16).wr W21 u16)
  have hws : ∀ d ∈ StrChars.Road.words, d.before a0 Z = true := fun d hd => hw d ((by decide +kernel : ∀ d ∈ StrChars.Road.words, d ∈ tables_1) d hd)
  have hp32 : ∀ c ∈ ([(nar .char (own_f19_m4 p1)), (nar .char (own_f19_m5 p1))] : List Int32), ¬ c < 0 ∧ ¬ (255 : Int32) < c := (own_allS (own_chr_19_m4 p1) (own_allS (own_chr_19_m5 p1) own_all0))
  have u33 : n0 ≤ b6 := Nat.le_trans Z0 (Nat.le_of_eq g6.symm)
  have z34 : h0.size ≤ h21.size := Nat.le_trans z18 (Nat.le_of_eq (Wr.size W21).symm)
  obtain ⟨_, _, ⟨T22, L22, k22, n22⟩, -, X22, ⟨Lc22, hQ22, l22, y22, z22⟩, st22⟩ := X21.specialBack hx (y := yM2) rfl hown (mvT hZ (WW hw 14)) (mvT hZ (WW hw 15)) (mvT hZ (WW hw 16)) (by decide) (StrChars.Road.backV (W := 1) hZ hws (kI := 4) (WW hw 11) (cs := ([(nar .char (own_f19_m4 p1)), (nar .char (own_f19_m5 p1))] : List Int32)) (bs := ([(nar .char (own_f19_m4 p1)), (nar .char (own_f19_m5 p1))] : List Int32).map (fun c => c.toInt8.toInt32)) (n := 2) u33 (Nat.le_trans Z0 z34) F23 F25 F26 V21 (f28.ext O30.2) f31 rfl rfl (by decide) (by decide) hp32 rfl (by decide) (by decide)) (g := (mkF m 72 #[SI p1, SI (((p1.toUInt32 >>> ((24 : Int32) &&& 31).toUInt32).toInt32) &&& (3 : Int32))] [VR b9, VR b6, VR b6])) rfl (by rw [hml]; rfl) (Steps.refl _) (a := b6) (argsL := [VR b9]) (rest := [VR b6]) (lenOf pd2 rfl) rfl (by show 2 * 0 + _ ≤ _; exact Nat.le_of_eq rfl) (hb hby d1_72) (fun _ _ => ⟨rfl, e21, (by decide : 2 + 1 ≤ _), (by decide : 6 + 2 ≤ _)⟩)
  dsimp only [Pt.U, Pt.locs, Pt.cells, Pt.slots] at X22 l22 y22 z22 st22 hQ22
  subst l22 y22 z22
  obtain ⟨rfl, N22q, K22, oE22, oC22, t22, kb22, -, lo22, nt22, oV22, oA22⟩ := hQ22
  have N22 := Fr.app N21 N22q
  refine own_go (fun _ k => st22.trans k) ?_
  show own_Fin p e below _ T22 (mkF m 75 #[SI p1, SI (((p1.toUInt32 >>> ((24 : Int32) &&& 31).toUInt32).toInt32) &&& (3 : Int32))] [VR b6])
  have K35 : Keep h0 T22.heap [] := ((((((Keep.refl h0 []).ext E6).ext E9).wr W15 (Or.inr (Nat.le_trans z11 (Nat.le_of_eq g9.symm)))).wr W21 (Or.inr (Nat.le_trans z11 (Nat.le_of_eq g9.symm)))).trans K22 (allS (Or.inr (Nat.le_of_eq g6.symm)) all0))
  obtain ⟨fs, hr, hrun, hended, hW, hsame⟩ := X22.leave (v := some (.ref b6)) (fun h => by rw [hret] at h; cases h)
  refine own_end (retOut X22 hx hret rfl (Or.inr (Or.inr (Or.inr (Or.inr ⟨rfl, rfl, rfl⟩)))) (hb hby d1_75) hr) hrun hended ⟨_, _, rfl, ?_, ⟨_, rfl⟩, hW, hsame.mono (by decide) (by decide)⟩
  show Q1_4 Z p1 p27 h0 n0 _ T22.heap _
  exact ⟨b6, t22, kb22, rfl, N22, K35, (Nat.le_of_eq g6.symm), (Nat.le_trans z34 lo22), (Ne.symm nt22), oE22, oC22, oV22, oA22⟩
def own_f8_m13 (P1_ : Int32) : Int32 := (if (own_f19_m4 P1_) = (63 : Int32) then (if (own_f19_m5 P1_) = (63 : Int32) then (0 : Int32) else (0 : Int32)) else (if (own_f19_m5 P1_) = (63 : Int32) then (0 : Int32) else (1 : Int32)))
theorem ef8_m13 (m : MethodId) (P1_ : Int32) : entryFrame m #[(.int P1_)] 5 = mkF m 0 #[SI P1_, SU, SU, SU, SU] [] := by first | (simp [entryFrame, mkF, argsToLocals, Value.category]; done) | rfl
def Q8_m13 (Z : State) (P1_ : Int32) (h0 : Heap) (n0 : Nat) (v : Option Value) (h : Heap) (L : List Loc) : Prop := v = some (.int (own_f8_m13 P1_)) ∧ Fr n0 L ∧ h = h0
set_option maxRecDepth 65536 in
set_option maxHeartbeats 40000000 in
theorem rm8_m13 (l : Launch) (Z : State) (a0 : Array Value) (hw : HW a0 Z) (ws : List Jvm.Cond) (P1_ : Int32) (h0 : Heap) (n0 : Nat) (Z0 : n0 ≤ h0.size) (fm1_ : ¬ ((((P1_.toUInt32 >>> ((24 : Int32) &&& 31).toUInt32).toInt32) &&& (3 : Int32)) < (1 : Int32))) (fm2_ : ¬ ((((P1_.toUInt32 >>> ((24 : Int32) &&& 31).toUInt32).toInt32) &&& (3 : Int32)) < (2 : Int32))) (fm3_ : (((P1_.toUInt32 >>> ((24 : Int32) &&& 31).toUInt32).toInt32) &&& (3 : Int32)) < (3 : Int32)) :
    MetFree l yM7 (head1 (Jvm.Cond.code yM7 method_6_code 5 (some .boolean) :: ws) ({ frames := 1, cells := 0, slots := 0, locals := 13 } : Room)) (fun a U => a = #[(.int P1_)] ∧ Z.Warmed39 U.vm ∧ U.heap = h0) (fun _ _ _ _ _ => True) (fun _ U o U' => ∃ v L, o = .returned v ∧ Q8_m13 Z P1_ h0 n0 v U'.heap L ∧ FrameEnd U o U' L ({ frames := 1, cells := 0, slots := 0, locals := 13 } : Room).cells ({ frames := 1, cells := 0, slots := 0, locals := 13 } : Room).slots) := by
  refine own_enter (n0 := n0) (plainFor_of_name pn0) (fun m => ef8_m13 m P1_) ?_
  intro p e s m below meth c s₁ hx hby hml hown hnm hret hlk X0 e0 hZ hh N0
  show own_Fin p e below _ s₁ (mkF m 0 #[SI P1_, SU, SU, SU, SU] [])
  refine own_go (fun _ k => XS.iloadN X0.here hx rfl (hb hby d8_0) rfl k) ?_
  show own_Fin p e below _ s₁ (mkF m 1 #[SI P1_, SU, SU, SU, SU] [VI P1_])
  obtain ⟨_, T1, L1, X1, hQ1, st1⟩ := own_cS X0 hx hZ hown (WW hw 7) (WW hw 8) (WW hw 5) (WW hw 9) (rm2_1 l Z a0 hw [] P1_ h0 n0 Z0 ) e0 hml (g := (mkF m 1 #[SI P1_, SU, SU, SU, SU] [VI P1_])) pd0 (hb hby d8_1) [VI P1_] [] (W := 0)
  obtain ⟨rfl, N1q, e1⟩ := hQ1
  have N1 := Fr.app N0 N1q
  refine own_go st1 ?_
  show own_Fin p e below _ T1 (mkF m 4 #[SI P1_, SU, SU, SU, SU] [VI (((P1_.toUInt32 >>> ((24 : Int32) &&& 31).toUInt32).toInt32) &&& (3 : Int32))])
  refine own_go (fun _ k => XS.istoreN X1.here hx rfl (hb hby d8_4) rfl (l' := #[SI P1_, SI (((P1_.toUInt32 >>> ((24 : Int32) &&& 31).toUInt32).toInt32) &&& (3 : Int32)), SU, SU, SU]) rfl (XS.iloadN X1.here hx rfl (hb hby d8_5) rfl (XS.iconst X1.here hx rfl (hb hby d8_6) (XS.icmpNo X1.here hx rfl (hb hby d8_7) rfl (flt fm1_).1 (XS.iloadN X1.here hx rfl (hb hby d8_10) rfl (XS.iconst X1.here hx rfl (hb hby d8_11) k)))))) ?_
  show own_Fin p e below _ T1 (mkF m 12 #[SI P1_, SI (((P1_.toUInt32 >>> ((24 : Int32) &&& 31).toUInt32).toInt32) &&& (3 : Int32)), SU, SU, SU] [VI 0, VI P1_])
  obtain ⟨_, T2, L2, X2, hQ2, st2⟩ := own_cS X1 hx hZ hown (WW hw 97) (WW hw 98) (WW hw 5) (WW hw 99) (rm19_m4 l Z a0 hw [] P1_ h0 n0 Z0 ) e1 hml (g := (mkF m 12 #[SI P1_, SI (((P1_.toUInt32 >>> ((24 : Int32) &&& 31).toUInt32).toInt32) &&& (3 : Int32)), SU, SU, SU] [VI 0, VI P1_])) pd3 (hb hby d8_12) [VI P1_, VI 0] [] (W := 0)
  obtain ⟨rfl, N2q, e2⟩ := hQ2
  have N2 := Fr.app N1 N2q
  refine own_go st2 ?_
  show own_Fin p e below _ T2 (mkF m 15 #[SI P1_, SI (((P1_.toUInt32 >>> ((24 : Int32) &&& 31).toUInt32).toInt32) &&& (3 : Int32)), SU, SU, SU] [VI (own_f19_m4 P1_)])
  by_cases hm0 : (own_f19_m4 P1_) = (63 : Int32)
  ·
    refine own_go (fun _ k => XS.bipush X2.here hx rfl (hb hby d8_15) (XS.icmpYes X2.here hx rfl (pc0 := 17) (pc' := 24) rfl (hb hby d8_17) rfl (teq hm0).1 (by decide) (by decide) (XS.iconst X2.here hx rfl (hb hby d8_24) (XS.istoreN X2.here hx rfl (hb hby d8_25) rfl (l' := #[SI P1_, SI (((P1_.toUInt32 >>> ((24 : Int32) &&& 31).toUInt32).toInt32) &&& (3 : Int32)), SI 0, SU, SU]) rfl (XS.iloadN X2.here hx rfl (hb hby d8_26) rfl (XS.iconst X2.here hx rfl (hb hby d8_27) (XS.icmpNo X2.here hx rfl (hb hby d8_28) rfl (flt fm2_).1 (XS.iloadN X2.here hx rfl (hb hby d8_31) rfl (XS.iconst X2.here hx rfl (hb hby d8_32) k))))))))) ?_
    show own_Fin p e below _ T2 (mkF m 33 #[SI P1_, SI (((P1_.toUInt32 >>> ((24 : Int32) &&& 31).toUInt32).toInt32) &&& (3 : Int32)), SI 0, SU, SU] [VI 1, VI P1_])
    obtain ⟨_, T3, L3, X3, hQ3, st3⟩ := own_cS X2 hx hZ hown (WW hw 97) (WW hw 98) (WW hw 5) (WW hw 99) (rm19_m5 l Z a0 hw [] P1_ h0 n0 Z0 ) e2 hml (g := (mkF m 33 #[SI P1_, SI (((P1_.toUInt32 >>> ((24 : Int32) &&& 31).toUInt32).toInt32) &&& (3 : Int32)), SI 0, SU, SU] [VI 1, VI P1_])) pd3 (hb hby d8_33) [VI P1_, VI 1] [] (W := 0)
    obtain ⟨rfl, N3q, e3⟩ := hQ3
    have N3 := Fr.app N2 N3q
    refine own_go st3 ?_
    show own_Fin p e below _ T3 (mkF m 36 #[SI P1_, SI (((P1_.toUInt32 >>> ((24 : Int32) &&& 31).toUInt32).toInt32) &&& (3 : Int32)), SI 0, SU, SU] [VI (own_f19_m5 P1_)])
    by_cases hm1 : (own_f19_m5 P1_) = (63 : Int32)
    ·
      refine own_go (fun _ k => XS.bipush X3.here hx rfl (hb hby d8_36) (XS.icmpYes X3.here hx rfl (pc0 := 38) (pc' := 45) rfl (hb hby d8_38) rfl (teq hm1).1 (by decide) (by decide) (XS.iconst X3.here hx rfl (hb hby d8_45) (XS.istoreN X3.here hx rfl (hb hby d8_46) rfl (l' := #[SI P1_, SI (((P1_.toUInt32 >>> ((24 : Int32) &&& 31).toUInt32).toInt32) &&& (3 : Int32)), SI 0, SI 0, SU]) rfl (XS.iloadN X3.here hx rfl (hb hby d8_47) rfl (XS.iconst X3.here hx rfl (hb hby d8_48) (XS.icmpYes X3.here hx rfl (pc0 := 49) (pc' := 62) rfl (hb hby d8_49) rfl (tlt fm3_).1 (by decide) (by decide) (XS.iconst X3.here hx rfl (hb hby d8_62) (XS.goto X3.here hx rfl (pc0 := 63) (pc' := 67) rfl (hb hby d8_63) (by decide) (by decide) (XS.istore X3.here hx rfl (hb hby d8_67) rfl (l' := #[SI P1_, SI (((P1_.toUInt32 >>> ((24 : Int32) &&& 31).toUInt32).toInt32) &&& (3 : Int32)), SI 0, SI 0, SI 1]) rfl k)))))))))) ?_
      show own_Fin p e below _ T3 (mkF m 69 #[SI P1_, SI (((P1_.toUInt32 >>> ((24 : Int32) &&& 31).toUInt32).toInt32) &&& (3 : Int32)), SI 0, SI 0, SI 1] [])
      refine own_go (fun _ k => XS.iloadN X3.here hx rfl (hb hby d8_69) rfl (XS.ifYes X3.here hx rfl (pc0 := 70) (pc' := 86) rfl (hb hby d8_70) rfl ((if0 _ _).trans (teq (by decide : (0 : Int32) = (0 : Int32))).1) (by decide) (by decide) (XS.iconst X3.here hx rfl (hb hby d8_86) k))) ?_
      show own_Fin p e below _ T3 (mkF m 87 #[SI P1_, SI (((P1_.toUInt32 >>> ((24 : Int32) &&& 31).toUInt32).toInt32) &&& (3 : Int32)), SI 0, SI 0, SI 1] [VI 0])
      obtain ⟨fs, hr, hrun, hended, hW, hsame⟩ := X3.leave (v := some (.int (0 : Int32))) (fun h => by rw [hret] at h; cases h)
      refine own_end (retN X3 hx (t := .boolean) hret (by simp) (hb hby d8_87) hr) hrun hended ⟨_, _, rfl, ?_, ⟨_, rfl⟩, hW, hsame.mono (by decide) (by decide)⟩
      show Q8_m13 Z P1_ h0 n0 _ T3.heap _
      rw [e3]
      exact ⟨by simp only [own_f8_m13, hm0, hm1, ↓reduceIte], N3, rfl⟩
    ·
      refine own_go (fun _ k => XS.bipush X3.here hx rfl (hb hby d8_36) (XS.icmpNo X3.here hx rfl (hb hby d8_38) rfl (feq hm1).1 (XS.iconst X3.here hx rfl (hb hby d8_41) (XS.goto X3.here hx rfl (pc0 := 42) (pc' := 46) rfl (hb hby d8_42) (by decide) (by decide) (XS.istoreN X3.here hx rfl (hb hby d8_46) rfl (l' := #[SI P1_, SI (((P1_.toUInt32 >>> ((24 : Int32) &&& 31).toUInt32).toInt32) &&& (3 : Int32)), SI 0, SI 1, SU]) rfl (XS.iloadN X3.here hx rfl (hb hby d8_47) rfl (XS.iconst X3.here hx rfl (hb hby d8_48) (XS.icmpYes X3.here hx rfl (pc0 := 49) (pc' := 62) rfl (hb hby d8_49) rfl (tlt fm3_).1 (by decide) (by decide) (XS.iconst X3.here hx rfl (hb hby d8_62) (XS.goto X3.here hx rfl (pc0 := 63) (pc' := 67) rfl (hb hby d8_63) (by decide) (by decide) k)))))))))) ?_
      show own_Fin p e below _ T3 (mkF m 67 #[SI P1_, SI (((P1_.toUInt32 >>> ((24 : Int32) &&& 31).toUInt32).toInt32) &&& (3 : Int32)), SI 0, SI 1, SU] [VI 1])
      refine own_go (fun _ k => XS.istore X3.here hx rfl (hb hby d8_67) rfl (l' := #[SI P1_, SI (((P1_.toUInt32 >>> ((24 : Int32) &&& 31).toUInt32).toInt32) &&& (3 : Int32)), SI 0, SI 1, SI 1]) rfl (XS.iloadN X3.here hx rfl (hb hby d8_69) rfl (XS.ifYes X3.here hx rfl (pc0 := 70) (pc' := 86) rfl (hb hby d8_70) rfl ((if0 _ _).trans (teq (by decide : (0 : Int32) = (0 : Int32))).1) (by decide) (by decide) (XS.iconst X3.here hx rfl (hb hby d8_86) k)))) ?_
      show own_Fin p e below _ T3 (mkF m 87 #[SI P1_, SI (((P1_.toUInt32 >>> ((24 : Int32) &&& 31).toUInt32).toInt32) &&& (3 : Int32)), SI 0, SI 1, SI 1] [VI 0])
      obtain ⟨fs, hr, hrun, hended, hW, hsame⟩ := X3.leave (v := some (.int (0 : Int32))) (fun h => by rw [hret] at h; cases h)
      refine own_end (retN X3 hx (t := .boolean) hret (by simp) (hb hby d8_87) hr) hrun hended ⟨_, _, rfl, ?_, ⟨_, rfl⟩, hW, hsame.mono (by decide) (by decide)⟩
      show Q8_m13 Z P1_ h0 n0 _ T3.heap _
      rw [e3]
      exact ⟨by simp only [own_f8_m13, hm0, hm1, ↓reduceIte], N3, rfl⟩
  ·
    refine own_go (fun _ k => XS.bipush X2.here hx rfl (hb hby d8_15) (XS.icmpNo X2.here hx rfl (hb hby d8_17) rfl (feq hm0).1 (XS.iconst X2.here hx rfl (hb hby d8_20) (XS.goto X2.here hx rfl (pc0 := 21) (pc' := 25) rfl (hb hby d8_21) (by decide) (by decide) (XS.istoreN X2.here hx rfl (hb hby d8_25) rfl (l' := #[SI P1_, SI (((P1_.toUInt32 >>> ((24 : Int32) &&& 31).toUInt32).toInt32) &&& (3 : Int32)), SI 1, SU, SU]) rfl (XS.iloadN X2.here hx rfl (hb hby d8_26) rfl (XS.iconst X2.here hx rfl (hb hby d8_27) (XS.icmpNo X2.here hx rfl (hb hby d8_28) rfl (flt fm2_).1 (XS.iloadN X2.here hx rfl (hb hby d8_31) rfl (XS.iconst X2.here hx rfl (hb hby d8_32) k)))))))))) ?_
    show own_Fin p e below _ T2 (mkF m 33 #[SI P1_, SI (((P1_.toUInt32 >>> ((24 : Int32) &&& 31).toUInt32).toInt32) &&& (3 : Int32)), SI 1, SU, SU] [VI 1, VI P1_])
    obtain ⟨_, T3, L3, X3, hQ3, st3⟩ := own_cS X2 hx hZ hown (WW hw 97) (WW hw 98) (WW hw 5) (WW hw 99) (rm19_m5 l Z a0 hw [] P1_ h0 n0 Z0 ) e2 hml (g := (mkF m 33 #[SI P1_, SI (((P1_.toUInt32 >>> ((24 : Int32) &&& 31).toUInt32).toInt32) &&& (3 : Int32)), SI 1, SU, SU] [VI 1, VI P1_])) pd3 (hb hby d8_33) [VI P1_, VI 1] [] (W := 0)
    obtain ⟨rfl, N3q, e3⟩ := hQ3
    have N3 := Fr.app N2 N3q
    refine own_go st3 ?_
    show own_Fin p e below _ T3 (mkF m 36 #[SI P1_, SI (((P1_.toUInt32 >>> ((24 : Int32) &&& 31).toUInt32).toInt32) &&& (3 : Int32)), SI 1, SU, SU] [VI (own_f19_m5 P1_)])
    by_cases hm1 : (own_f19_m5 P1_) = (63 : Int32)
    ·
      refine own_go (fun _ k => XS.bipush X3.here hx rfl (hb hby d8_36) (XS.icmpYes X3.here hx rfl (pc0 := 38) (pc' := 45) rfl (hb hby d8_38) rfl (teq hm1).1 (by decide) (by decide) (XS.iconst X3.here hx rfl (hb hby d8_45) (XS.istoreN X3.here hx rfl (hb hby d8_46) rfl (l' := #[SI P1_, SI (((P1_.toUInt32 >>> ((24 : Int32) &&& 31).toUInt32).toInt32) &&& (3 : Int32)), SI 1, SI 0, SU]) rfl (XS.iloadN X3.here hx rfl (hb hby d8_47) rfl (XS.iconst X3.here hx rfl (hb hby d8_48) (XS.icmpYes X3.here hx rfl (pc0 := 49) (pc' := 62) rfl (hb hby d8_49) rfl (tlt fm3_).1 (by decide) (by decide) (XS.iconst X3.here hx rfl (hb hby d8_62) (XS.goto X3.here hx rfl (pc0 := 63) (pc' := 67) rfl (hb hby d8_63) (by decide) (by decide) (XS.istore X3.here hx rfl (hb hby d8_67) rfl (l' := #[SI P1_, SI (((P1_.toUInt32 >>> ((24 : Int32) &&& 31).toUInt32).toInt32) &&& (3 : Int32)), SI 1, SI 0, SI 1]) rfl k)))))))))) ?_
      show own_Fin p e below _ T3 (mkF m 69 #[SI P1_, SI (((P1_.toUInt32 >>> ((24 : Int32) &&& 31).toUInt32).toInt32) &&& (3 : Int32)), SI 1, SI 0, SI 1] [])
      refine own_go (fun _ k => XS.iloadN X3.here hx rfl (hb hby d8_69) rfl (XS.ifNo X3.here hx rfl (hb hby d8_70) rfl ((if0 _ _).trans (feq (by decide : ¬ ((1 : Int32) = (0 : Int32)))).1) (XS.iloadN X3.here hx rfl (hb hby d8_73) rfl (XS.ifYes X3.here hx rfl (pc0 := 74) (pc' := 86) rfl (hb hby d8_74) rfl ((if0 _ _).trans (teq (by decide : (0 : Int32) = (0 : Int32))).1) (by decide) (by decide) (XS.iconst X3.here hx rfl (hb hby d8_86) k))))) ?_
      show own_Fin p e below _ T3 (mkF m 87 #[SI P1_, SI (((P1_.toUInt32 >>> ((24 : Int32) &&& 31).toUInt32).toInt32) &&& (3 : Int32)), SI 1, SI 0, SI 1] [VI 0])
      obtain ⟨fs, hr, hrun, hended, hW, hsame⟩ := X3.leave (v := some (.int (0 : Int32))) (fun h => by rw [hret] at h; cases h)
      refine own_end (retN X3 hx (t := .boolean) hret (by simp) (hb hby d8_87) hr) hrun hended ⟨_, _, rfl, ?_, ⟨_, rfl⟩, hW, hsame.mono (by decide) (by decide)⟩
      show Q8_m13 Z P1_ h0 n0 _ T3.heap _
      rw [e3]
      exact ⟨by simp only [own_f8_m13, hm0, hm1, ↓reduceIte], N3, rfl⟩
    ·
      refine own_go (fun _ k => XS.bipush X3.here hx rfl (hb hby d8_36) (XS.icmpNo X3.here hx rfl (hb hby d8_38) rfl (feq hm1).1 (XS.iconst X3.here hx rfl (hb hby d8_41) (XS.goto X3.here hx rfl (pc0 := 42) (pc' := 46) rfl (hb hby d8_42) (by decide) (by decide) (XS.istoreN X3.here hx rfl (hb hby d8_46) rfl (l' := #[SI P1_, SI (((P1_.toUInt32 >>> ((24 : Int32) &&& 31).toUInt32).toInt32) &&& (3 : Int32)), SI 1, SI 1, SU]) rfl (XS.iloadN X3.here hx rfl (hb hby d8_47) rfl (XS.iconst X3.here hx rfl (hb hby d8_48) (XS.icmpYes X3.here hx rfl (pc0 := 49) (pc' := 62) rfl (hb hby d8_49) rfl (tlt fm3_).1 (by decide) (by decide) (XS.iconst X3.here hx rfl (hb hby d8_62) (XS.goto X3.here hx rfl (pc0 := 63) (pc' := 67) rfl (hb hby d8_63) (by decide) (by decide) k)))))))))) ?_
      show own_Fin p e below _ T3 (mkF m 67 #[SI P1_, SI (((P1_.toUInt32 >>> ((24 : Int32) &&& 31).toUInt32).toInt32) &&& (3 : Int32)), SI 1, SI 1, SU] [VI 1])
      refine own_go (fun _ k => XS.istore X3.here hx rfl (hb hby d8_67) rfl (l' := #[SI P1_, SI (((P1_.toUInt32 >>> ((24 : Int32) &&& 31).toUInt32).toInt32) &&& (3 : Int32)), SI 1, SI 1, SI 1]) rfl (XS.iloadN X3.here hx rfl (hb hby d8_69) rfl (XS.ifNo X3.here hx rfl (hb hby d8_70) rfl ((if0 _ _).trans (feq (by decide : ¬ ((1 : Int32) = (0 : Int32)))).1) (XS.iloadN X3.here hx rfl (hb hby d8_73) rfl (XS.ifNo X3.here hx rfl (hb hby d8_74) rfl ((if0 _ _).trans (feq (by decide : ¬ ((1 : Int32) = (0 : Int32)))).1) (XS.iload X3.here hx rfl (hb hby d8_77) rfl (XS.ifNo X3.here hx rfl (hb hby d8_79) rfl ((if0 _ _).trans (feq (by decide : ¬ ((1 : Int32) = (0 : Int32)))).1) (XS.iconst X3.here hx rfl (hb hby d8_82) (XS.goto X3.here hx rfl (pc0 := 83) (pc' := 87) rfl (hb hby d8_83) (by decide) (by decide) k))))))))) ?_
      show own_Fin p e below _ T3 (mkF m 87 #[SI P1_, SI (((P1_.toUInt32 >>> ((24 : Int32) &&& 31).toUInt32).toInt32) &&& (3 : Int32)), SI 1, SI 1, SI 1] [VI 1])
      obtain ⟨fs, hr, hrun, hended, hW, hsame⟩ := X3.leave (v := some (.int (1 : Int32))) (fun h => by rw [hret] at h; cases h)
      refine own_end (retN X3 hx (t := .boolean) hret (by simp) (hb hby d8_87) hr) hrun hended ⟨_, _, rfl, ?_, ⟨_, rfl⟩, hW, hsame.mono (by decide) (by decide)⟩
      show Q8_m13 Z P1_ h0 n0 _ T3.heap _
      rw [e3]
      exact ⟨by simp only [own_f8_m13, hm0, hm1, ↓reduceIte], N3, rfl⟩
theorem ef13_3 (m : MethodId) (a1 : Addr) : entryFrame m #[(.ref a1)] 1 = mkF m 0 #[SR a1] [] := by first | (simp [entryFrame, mkF, argsToLocals, Value.category]; done) | rfl
def Q13_3 (Z : State) (a1 : Addr) (a2 : Addr) (k5 : ClassId) (p6 : Int32) (p7 : Int32) (p11 : Int32) (h0 : Heap) (n0 : Nat) (v : Option Value) (h : Heap) (L : List Loc) : Prop := v = some (.int (2 : Int32)) ∧ Fr n0 L ∧ h = h0
set_option maxRecDepth 65536 in
set_option maxHeartbeats 40000000 in
theorem rm13_3 (l : Launch) (Z : State) (a0 : Array Value) (hw : HW a0 Z) (ws : List Jvm.Cond) (a1 : Addr) (a2 : Addr) (k5 : ClassId) (p6 : Int32) (p7 : Int32) (p11 : Int32) (h0 : Heap) (n0 : Nat) (Z0 : n0 ≤ h0.size) (f3 : Fld Z h0 a1 cC3 "value" "[B" (VR a2)) (f8 : Arv Z h0 a2 k5 .byte 2 [VI p6, VI p7] (VI 0)) (f10 : Exa Z h0 a1 cC3) (f12 : Sta Z Z.heap "java/lang/String" "COMPACT_STRINGS" "Z" (.int p11)) (f13 : Old Z n0 h0) (f14 : ¬ (p11 = (0 : Int32))) (f15 : Fld Z h0 a1 cC3 "coder" "B" (VI 0)) :
    MetFree l yM10 (head1 (Jvm.Cond.code yM10 jdk_42_method_54_code 1 (some .int) :: ws) ({ frames := 1, cells := 0, slots := 0, locals := 13 } : Room)) (fun a U => a = #[(.ref a1)] ∧ Z.Warmed39 U.vm ∧ U.heap = h0) (fun _ _ _ _ _ => True) (fun _ U o U' => ∃ v L, o = .returned v ∧ Q13_3 Z a1 a2 k5 p6 p7 p11 h0 n0 v U'.heap L ∧ FrameEnd U o U' L ({ frames := 1, cells := 0, slots := 0, locals := 13 } : Room).cells ({ frames := 1, cells := 0, slots := 0, locals := 13 } : Room).slots) := by
  refine own_enter (n0 := n0) (plainFor_of_name pn3) (fun m => ef13_3 m a1) ?_
  intro p e s m below meth c s₁ hx hby hml hown hnm hret hlk X0 e0 hZ hh N0
  show own_Fin p e below _ s₁ (mkF m 0 #[SR a1] [])
  refine own_go (fun _ k => XS.aloadN X0.here hx rfl (hb hby d13_0) rfl rfl k) ?_
  show own_Fin p e below _ s₁ (mkF m 1 #[SR a1] [VR a1])
  obtain ⟨T4, X4, e4, st4⟩ := getF X0 hx hZ hown (host := "") (Or.inl (WW hw 30)) Via.refl e0 f3 (g := (mkF m 1 #[SR a1] [VR a1])) rfl rfl (hb hby d13_1)
  refine own_go st4 ?_
  show own_Fin p e below _ T4 (mkF m 4 #[SR a1] [VR a2])
  obtain ⟨cl9, Ar9, q9, Sz9, Nn9, Hs9, Gg9⟩ := id f8
  refine own_go (fun _ k => X4.arraylength hx (by rw [e4]; exact Ar9.1) (State.isArrayOf_alike hZ.alike Ar9.2.1) (g := (mkF m 4 #[SR a1] [VR a2])) rfl rfl (hb hby d13_4) _ k) ?_
  rw [len_of Sz9 Nn9]
  show own_Fin p e below _ T4 (mkF m 5 #[SR a1] [VI 2])
  refine own_go (fun _ k => XS.aloadN X4.here hx rfl (hb hby d13_5) rfl rfl k) ?_
  show own_Fin p e below _ T4 (mkF m 6 #[SR a1] [VR a1, VI 2])
  obtain ⟨_, T16, L16, X16, hQ16, st16⟩ := own_cV X4 hx hZ hown (WW hw 78) (WW hw 79) (notFace_of_selects (args := #[]) (mvT hZ (WW hw 81))) (WW hw 81) (WW hw 80) (WW hw 12) (WW hw 82) (rm14_1 l Z a0 hw [] a1 p11 h0 n0 Z0 f12 f13 f14 f15) e4 f10 hml (g := (mkF m 6 #[SR a1] [VR a1, VI 2])) pd9 (hb hby d13_6) [] [VI 2] (W := 1)
  obtain ⟨rfl, N16q, e16⟩ := hQ16
  have N16 := Fr.app N0 N16q
  refine own_go st16 ?_
  show own_Fin p e below _ T16 (mkF m 9 #[SR a1] [VI 0, VI 2])
  refine own_go (fun _ k => XS.ishr X16.here hx rfl (hb hby d13_9) rfl k) ?_
  show own_Fin p e below _ T16 (mkF m 10 #[SR a1] [VI 2])
  obtain ⟨fs, hr, hrun, hended, hW, hsame⟩ := X16.leave (v := some (.int (2 : Int32))) (fun h => by rw [hret] at h; cases h)
  refine own_end (retOut X16 hx hret rfl (Or.inl ⟨rfl, Or.inl rfl, _, rfl⟩) (hb hby d13_10) hr) hrun hended ⟨_, _, rfl, ?_, ⟨_, rfl⟩, hW, hsame.mono (by decide) (by decide)⟩
  show Q13_3 Z a1 a2 k5 p6 p7 p11 h0 n0 _ T16.heap _
  rw [e16]
  exact ⟨rfl, N16, rfl⟩
def own_f23_m17 (P2_ : Int32) (P4_ : Int32) (P5_ : Int32) : Int32 := (if P4_ = (P2_.toInt8.toInt32) then (0 : Int32) else (if P5_ = (P2_.toInt8.toInt32) then (1 : Int32) else (-1 : Int32)))
theorem ef23_m17 (m : MethodId) (A1_ : Addr) (P2_ : Int32) : entryFrame m #[(.ref A1_), (.int P2_), (.int (0 : Int32)), (.int (2 : Int32))] 6 = mkF m 0 #[SR A1_, SI P2_, SI 0, SI 2, SU, SU] [] := by first | (simp [entryFrame, mkF, argsToLocals, Value.category]; done) | rfl
def Q23_m17 (Z : State) (A1_ : Addr) (P2_ : Int32) (KK3_ : ClassId) (P4_ : Int32) (P5_ : Int32) (h0 : Heap) (n0 : Nat) (v : Option Value) (h : Heap) (L : List Loc) : Prop := v = some (.int (own_f23_m17 P2_ P4_ P5_)) ∧ Fr n0 L ∧ h = h0
set_option maxRecDepth 65536 in
set_option maxHeartbeats 40000000 in
theorem rm23_m17 (l : Launch) (Z : State) (a0 : Array Value) (hw : HW a0 Z) (ws : List Jvm.Cond) (A1_ : Addr) (P2_ : Int32) (KK3_ : ClassId) (P4_ : Int32) (P5_ : Int32) (h0 : Heap) (n0 : Nat) (Z0 : n0 ≤ h0.size) (fm1_ : Arv Z h0 A1_ KK3_ .byte 2 [VI P4_, VI P5_] (VI 0)) :
    MetFree l yM18 (head1 (Jvm.Cond.code yM18 jdk_43_method_23_code 6 (some .int) :: ws) ({ frames := 0, cells := 0, slots := 0, locals := 0 } : Room)) (fun a U => a = #[(.ref A1_), (.int P2_), (.int (0 : Int32)), (.int (2 : Int32))] ∧ Z.Warmed39 U.vm ∧ U.heap = h0) (fun _ _ _ _ _ => True) (fun _ U o U' => ∃ v L, o = .returned v ∧ Q23_m17 Z A1_ P2_ KK3_ P4_ P5_ h0 n0 v U'.heap L ∧ FrameEnd U o U' L ({ frames := 0, cells := 0, slots := 0, locals := 0 } : Room).cells ({ frames := 0, cells := 0, slots := 0, locals := 0 } : Room).slots) := by
  refine own_enter (n0 := n0) (plainFor_of_name pn15) (fun m => ef23_m17 m A1_ P2_) ?_
  intro p e s m below meth c s₁ hx hby hml hown hnm hret hlk X0 e0 hZ hh N0
  show own_Fin p e below _ s₁ (mkF m 0 #[SR A1_, SI P2_, SI 0, SI 2, SU, SU] [])
  refine own_go (fun _ k => XS.iloadN X0.here hx rfl (hb hby d23_0) rfl (XS.i2b X0.here hx rfl (hb hby d23_1) rfl (XS.istore X0.here hx rfl (hb hby d23_2) rfl (l' := #[SR A1_, SI P2_, SI 0, SI 2, SI (P2_.toInt8.toInt32), SU]) rfl (XS.iloadN X0.here hx rfl (hb hby d23_4) rfl (XS.istore X0.here hx rfl (hb hby d23_5) rfl (l' := #[SR A1_, SI P2_, SI 0, SI 2, SI (P2_.toInt8.toInt32), SI 0]) rfl (XS.iload X0.here hx rfl (hb hby d23_7) rfl (XS.iloadN X0.here hx rfl (hb hby d23_9) rfl (XS.icmpNo X0.here hx rfl (hb hby d23_10) rfl (tlt (by decide : (0 : Int32) < (2 : Int32))).2.1 (XS.aloadN X0.here hx rfl (hb hby d23_13) rfl rfl (XS.iload X0.here hx rfl (hb hby d23_14) rfl k)))))))))) ?_
  show own_Fin p e below _ s₁ (mkF m 16 #[SR A1_, SI P2_, SI 0, SI 2, SI (P2_.toInt8.toInt32), SI 0] [VI 0, VR A1_])
  obtain ⟨cl1, Ar1, q1, Sz1, Nn1, Hs1, Gg1⟩ := id fm1_
  have i2 : ¬ ((0 : Int32) < 0 ∨ cl1.slots.size ≤ ((0 : Int32)).toNatClampNeg) := inb_of Sz1 ⟨(by decide : ¬ ((0 : Int32) < (0 : Int32))), (by decide : (0 : Int32) < (2 : Int32))⟩
  refine own_go (fun _ k => X0.baloadBytes hx (j := (0 : Int32)) (v := (.int P4_)) (by rw [e0]; exact Ar1.1) (State.isArrayOf_alike hZ.alike Ar1.2.1) Ar1.2.2 i2 (Hs1.at i2 rfl) (g := (mkF m 16 #[SR A1_, SI P2_, SI 0, SI 2, SI (P2_.toInt8.toInt32), SI 0] [VI 0, VR A1_])) rfl rfl (hb hby d23_16) _ k) ?_
  show own_Fin p e below _ s₁ (mkF m 17 #[SR A1_, SI P2_, SI 0, SI 2, SI (P2_.toInt8.toInt32), SI 0] [VI P4_])
  by_cases hm0 : P4_ = (P2_.toInt8.toInt32)
  ·
    refine own_go (fun _ k => XS.iload X0.here hx rfl (hb hby d23_17) rfl (XS.icmpNo X0.here hx rfl (hb hby d23_19) rfl (teq hm0).2 (XS.iload X0.here hx rfl (hb hby d23_22) rfl k))) ?_
    show own_Fin p e below _ s₁ (mkF m 24 #[SR A1_, SI P2_, SI 0, SI 2, SI (P2_.toInt8.toInt32), SI 0] [VI 0])
    obtain ⟨fs, hr, hrun, hended, hW, hsame⟩ := X0.leave (v := some (.int (0 : Int32))) (fun h => by rw [hret] at h; cases h)
    refine own_end (retOut X0 hx hret rfl (Or.inl ⟨rfl, Or.inl rfl, _, rfl⟩) (hb hby d23_24) hr) hrun hended ⟨_, _, rfl, ?_, ⟨_, rfl⟩, hW, hsame.mono (by decide) (by decide)⟩
    show Q23_m17 Z A1_ P2_ KK3_ P4_ P5_ h0 n0 _ s₁.heap _
    rw [e0]
    exact ⟨by simp only [own_f23_m17, hm0, ↓reduceIte], N0, rfl⟩
  ·
    refine own_go (fun _ k => XS.iload X0.here hx rfl (hb hby d23_17) rfl (XS.icmpYes X0.here hx rfl (pc0 := 19) (pc' := 25) rfl (hb hby d23_19) rfl (feq hm0).2 (by decide) (by decide) (XS.iinc X0.here hx rfl (hb hby d23_25) rfl (l' := #[SR A1_, SI P2_, SI 0, SI 2, SI (P2_.toInt8.toInt32), SI 1]) rfl (XS.goto X0.here hx rfl (pc0 := 28) (pc' := 7) rfl (hb hby d23_28) (by decide) (by decide) (XS.iload X0.here hx rfl (hb hby d23_7) rfl (XS.iloadN X0.here hx rfl (hb hby d23_9) rfl (XS.icmpNo X0.here hx rfl (hb hby d23_10) rfl (tlt (by decide : (1 : Int32) < (2 : Int32))).2.1 (XS.aloadN X0.here hx rfl (hb hby d23_13) rfl rfl (XS.iload X0.here hx rfl (hb hby d23_14) rfl k))))))))) ?_
    show own_Fin p e below _ s₁ (mkF m 16 #[SR A1_, SI P2_, SI 0, SI 2, SI (P2_.toInt8.toInt32), SI 1] [VI 1, VR A1_])
    obtain ⟨cl3, Ar3, q3, Sz3, Nn3, Hs3, Gg3⟩ := id fm1_
    have i4 : ¬ ((1 : Int32) < 0 ∨ cl3.slots.size ≤ ((1 : Int32)).toNatClampNeg) := inb_of Sz3 ⟨(by decide : ¬ ((1 : Int32) < (0 : Int32))), (by decide : (1 : Int32) < (2 : Int32))⟩
    refine own_go (fun _ k => X0.baloadBytes hx (j := (1 : Int32)) (v := (.int P5_)) (by rw [e0]; exact Ar3.1) (State.isArrayOf_alike hZ.alike Ar3.2.1) Ar3.2.2 i4 (Hs3.at i4 rfl) (g := (mkF m 16 #[SR A1_, SI P2_, SI 0, SI 2, SI (P2_.toInt8.toInt32), SI 1] [VI 1, VR A1_])) rfl rfl (hb hby d23_16) _ k) ?_
    show own_Fin p e below _ s₁ (mkF m 17 #[SR A1_, SI P2_, SI 0, SI 2, SI (P2_.toInt8.toInt32), SI 1] [VI P5_])
    by_cases hm1 : P5_ = (P2_.toInt8.toInt32)
    ·
      refine own_go (fun _ k => XS.iload X0.here hx rfl (hb hby d23_17) rfl (XS.icmpNo X0.here hx rfl (hb hby d23_19) rfl (teq hm1).2 (XS.iload X0.here hx rfl (hb hby d23_22) rfl k))) ?_
      show own_Fin p e below _ s₁ (mkF m 24 #[SR A1_, SI P2_, SI 0, SI 2, SI (P2_.toInt8.toInt32), SI 1] [VI 1])
      obtain ⟨fs, hr, hrun, hended, hW, hsame⟩ := X0.leave (v := some (.int (1 : Int32))) (fun h => by rw [hret] at h; cases h)
      refine own_end (retOut X0 hx hret rfl (Or.inl ⟨rfl, Or.inl rfl, _, rfl⟩) (hb hby d23_24) hr) hrun hended ⟨_, _, rfl, ?_, ⟨_, rfl⟩, hW, hsame.mono (by decide) (by decide)⟩
      show Q23_m17 Z A1_ P2_ KK3_ P4_ P5_ h0 n0 _ s₁.heap _
      rw [e0]
      exact ⟨by simp only [own_f23_m17, hm0, hm1, ↓reduceIte], N0, rfl⟩
    ·
      refine own_go (fun _ k => XS.iload X0.here hx rfl (hb hby d23_17) rfl (XS.icmpYes X0.here hx rfl (pc0 := 19) (pc' := 25) rfl (hb hby d23_19) rfl (feq hm1).2 (by decide) (by decide) (XS.iinc X0.here hx rfl (hb hby d23_25) rfl (l' := #[SR A1_, SI P2_, SI 0, SI 2, SI (P2_.toInt8.toInt32), SI 2]) rfl (XS.goto X0.here hx rfl (pc0 := 28) (pc' := 7) rfl (hb hby d23_28) (by decide) (by decide) (XS.iload X0.here hx rfl (hb hby d23_7) rfl (XS.iloadN X0.here hx rfl (hb hby d23_9) rfl (XS.icmpYes X0.here hx rfl (pc0 := 10) (pc' := 31) rfl (hb hby d23_10) rfl (flt (by decide : ¬ ((2 : Int32) < (2 : Int32)))).2.1 (by decide) (by decide) (XS.iconst X0.here hx rfl (hb hby d23_31) k)))))))) ?_
      show own_Fin p e below _ s₁ (mkF m 32 #[SR A1_, SI P2_, SI 0, SI 2, SI (P2_.toInt8.toInt32), SI 2] [VI (-1)])
      obtain ⟨fs, hr, hrun, hended, hW, hsame⟩ := X0.leave (v := some (.int (-1 : Int32))) (fun h => by rw [hret] at h; cases h)
      refine own_end (retOut X0 hx hret rfl (Or.inl ⟨rfl, Or.inl rfl, _, rfl⟩) (hb hby d23_32) hr) hrun hended ⟨_, _, rfl, ?_, ⟨_, rfl⟩, hW, hsame.mono (by decide) (by decide)⟩
      show Q23_m17 Z A1_ P2_ KK3_ P4_ P5_ h0 n0 _ s₁.heap _
      rw [e0]
      exact ⟨by simp only [own_f23_m17, hm0, hm1, ↓reduceIte], N0, rfl⟩
theorem ef15_3 (m : MethodId) (a1 : Addr) (p2 : Int32) : entryFrame m #[(.ref a1), (.int p2), (.int (0 : Int32)), (.int (2 : Int32))] 4 = mkF m 0 #[SR a1, SI p2, SI 0, SI 2] [] := by first | (simp [entryFrame, mkF, argsToLocals, Value.category]; done) | rfl
def Q15_3 (Z : State) (a1 : Addr) (p2 : Int32) (k7 : ClassId) (p8 : Int32) (p9 : Int32) (h0 : Heap) (n0 : Nat) (v : Option Value) (h : Heap) (L : List Loc) : Prop := v = some (.int (own_f23_m17 p2 p8 p9)) ∧ Fr n0 L ∧ h = h0
set_option maxRecDepth 65536 in
set_option maxHeartbeats 40000000 in
theorem rm15_3 (l : Launch) (Z : State) (a0 : Array Value) (hw : HW a0 Z) (ws : List Jvm.Cond) (a1 : Addr) (p2 : Int32) (k7 : ClassId) (p8 : Int32) (p9 : Int32) (h0 : Heap) (n0 : Nat) (Z0 : n0 ≤ h0.size) (f3 : ¬ (p2 < (0 : Int32))) (f4 : ¬ ((255 : Int32) < p2)) (f10 : Arv Z h0 a1 k7 .byte 2 [VI p8, VI p9] (VI 0)) :
    MetFree l yM14 (head1 (Jvm.Cond.code yM14 jdk_43_method_22_code 4 (some .int) :: ws) ({ frames := 1, cells := 0, slots := 0, locals := 17 } : Room)) (fun a U => a = #[(.ref a1), (.int p2), (.int (0 : Int32)), (.int (2 : Int32))] ∧ Z.Warmed39 U.vm ∧ U.heap = h0) (fun _ _ _ _ _ => True) (fun _ U o U' => ∃ v L, o = .returned v ∧ Q15_3 Z a1 p2 k7 p8 p9 h0 n0 v U'.heap L ∧ FrameEnd U o U' L ({ frames := 1, cells := 0, slots := 0, locals := 17 } : Room).cells ({ frames := 1, cells := 0, slots := 0, locals := 17 } : Room).slots) := by
  refine own_enter (n0 := n0) (plainFor_of_name pn15) (fun m => ef15_3 m a1 p2) ?_
  intro p e s m below meth c s₁ hx hby hml hown hnm hret hlk X0 e0 hZ hh N0
  show own_Fin p e below _ s₁ (mkF m 0 #[SR a1, SI p2, SI 0, SI 2] [])
  refine own_go (fun _ k => XS.iloadN X0.here hx rfl (hb hby d15_0) rfl k) ?_
  show own_Fin p e below _ s₁ (mkF m 1 #[SR a1, SI p2, SI 0, SI 2] [VI p2])
  obtain ⟨_, T5, L5, X5, hQ5, st5⟩ := own_cS X0 hx hZ hown (WW hw 87) (WW hw 88) (WW hw 85) (WW hw 89) (rm16_1 l Z a0 hw [] p2 h0 n0 Z0 f3 f4) e0 hml (g := (mkF m 1 #[SR a1, SI p2, SI 0, SI 2] [VI p2])) pd7 (hb hby d15_1) [VI p2] [] (W := 0)
  obtain ⟨rfl, N5q, e5⟩ := hQ5
  have N5 := Fr.app N0 N5q
  refine own_go st5 ?_
  show own_Fin p e below _ T5 (mkF m 4 #[SR a1, SI p2, SI 0, SI 2] [VI 1])
  refine own_go (fun _ k => XS.ifYes X5.here hx rfl (pc0 := 4) (pc' := 9) rfl (hb hby d15_4) rfl ((if0 _ _).trans (feq (by decide : ¬ ((1 : Int32) = (0 : Int32)))).2) (by decide) (by decide) (XS.iloadN X5.here hx rfl (hb hby d15_9) rfl (XS.iconst X5.here hx rfl (hb hby d15_10) k))) ?_
  show own_Fin p e below _ T5 (mkF m 11 #[SR a1, SI p2, SI 0, SI 2] [VI 0, VI 0])
  obtain ⟨_, T6, L6, X6, hQ6, st6⟩ := own_cS X5 hx hZ hown (WW hw 90) (WW hw 91) (WW hw 92) (WW hw 93) (rm17_1 l Z a0 hw [] (0 : Int32) (0 : Int32) h0 n0 Z0 (by decide : ¬ ((0 : Int32) < (0 : Int32)))) e5 hml (g := (mkF m 11 #[SR a1, SI p2, SI 0, SI 2] [VI 0, VI 0])) pd11 (hb hby d15_11) [VI 0, VI 0] [] (W := 0)
  obtain ⟨rfl, N6q, e6⟩ := hQ6
  have N6 := Fr.app N5 N6q
  refine own_go st6 ?_
  show own_Fin p e below _ T6 (mkF m 14 #[SR a1, SI p2, SI 0, SI 2] [VI 0])
  refine own_go (fun _ k => XS.istoreN X6.here hx rfl (hb hby d15_14) rfl (l' := #[SR a1, SI p2, SI 0, SI 2]) rfl (XS.iloadN X6.here hx rfl (hb hby d15_15) rfl (XS.aloadN X6.here hx rfl (hb hby d15_16) rfl rfl k))) ?_
  show own_Fin p e below _ T6 (mkF m 17 #[SR a1, SI p2, SI 0, SI 2] [VR a1, VI 2])
  obtain ⟨cl11, Ar11, q11, Sz11, Nn11, Hs11, Gg11⟩ := id f10
  refine own_go (fun _ k => X6.arraylength hx (by rw [e6]; exact Ar11.1) (State.isArrayOf_alike hZ.alike Ar11.2.1) (g := (mkF m 17 #[SR a1, SI p2, SI 0, SI 2] [VR a1, VI 2])) rfl rfl (hb hby d15_17) _ k) ?_
  rw [len_of Sz11 Nn11]
  show own_Fin p e below _ T6 (mkF m 18 #[SR a1, SI p2, SI 0, SI 2] [VI 2, VI 2])
  obtain ⟨_, T12, L12, X12, hQ12, st12⟩ := own_cS X6 hx hZ hown (WW hw 94) (WW hw 95) (WW hw 92) (WW hw 96) (rm18_1 l Z a0 hw [] (2 : Int32) (2 : Int32) h0 n0 Z0 (by decide : ¬ ((2 : Int32) < (2 : Int32)))) e6 hml (g := (mkF m 18 #[SR a1, SI p2, SI 0, SI 2] [VI 2, VI 2])) pd11 (hb hby d15_18) [VI 2, VI 2] [] (W := 0)
  obtain ⟨rfl, N12q, e12⟩ := hQ12
  have N12 := Fr.app N6 N12q
  refine own_go st12 ?_
  show own_Fin p e below _ T12 (mkF m 21 #[SR a1, SI p2, SI 0, SI 2] [VI 2])
  refine own_go (fun _ k => XS.istoreN X12.here hx rfl (hb hby d15_21) rfl (l' := #[SR a1, SI p2, SI 0, SI 2]) rfl (XS.iloadN X12.here hx rfl (hb hby d15_22) rfl (XS.iloadN X12.here hx rfl (hb hby d15_23) rfl (XS.icmpYes X12.here hx rfl (pc0 := 24) (pc' := 29) rfl (hb hby d15_24) rfl (tlt (by decide : (0 : Int32) < (2 : Int32))).1 (by decide) (by decide) (XS.aloadN X12.here hx rfl (hb hby d15_29) rfl rfl (XS.iloadN X12.here hx rfl (hb hby d15_30) rfl (XS.iloadN X12.here hx rfl (hb hby d15_31) rfl (XS.iloadN X12.here hx rfl (hb hby d15_32) rfl k)))))))) ?_
  show own_Fin p e below _ T12 (mkF m 33 #[SR a1, SI p2, SI 0, SI 2] [VI 2, VI 0, VI p2, VR a1])
  obtain ⟨_, T13, L13, X13, hQ13, st13⟩ := own_cS X12 hx hZ hown (WW hw 110) (WW hw 111) (WW hw 85) (WW hw 112) (rm23_m17 l Z a0 hw [] a1 p2 k7 p8 p9 h0 n0 Z0 f10) e12 hml (g := (mkF m 33 #[SR a1, SI p2, SI 0, SI 2] [VI 2, VI 0, VI p2, VR a1])) pd12 (hb hby d15_33) [VR a1, VI p2, VI 0, VI 2] [] (W := 0)
  obtain ⟨rfl, N13q, e13⟩ := hQ13
  have N13 := Fr.app N12 N13q
  refine own_go st13 ?_
  show own_Fin p e below _ T13 (mkF m 36 #[SR a1, SI p2, SI 0, SI 2] [VI (own_f23_m17 p2 p8 p9)])
  obtain ⟨fs, hr, hrun, hended, hW, hsame⟩ := X13.leave (v := some (.int (own_f23_m17 p2 p8 p9))) (fun h => by rw [hret] at h; cases h)
  refine own_end (retOut X13 hx hret rfl (Or.inl ⟨rfl, Or.inl rfl, _, rfl⟩) (hb hby d15_36) hr) hrun hended ⟨_, _, rfl, ?_, ⟨_, rfl⟩, hW, hsame.mono (by decide) (by decide)⟩
  show Q15_3 Z a1 p2 k7 p8 p9 h0 n0 _ T13.heap _
  rw [e13]
  exact ⟨rfl, N13, rfl⟩
theorem ef11_3 (m : MethodId) (a1 : Addr) (p2 : Int32) : entryFrame m #[(.ref a1), (.int p2), (.int (0 : Int32))] 3 = mkF m 0 #[SR a1, SI p2, SI 0] [] := by first | (simp [entryFrame, mkF, argsToLocals, Value.category]; done) | rfl
def Q11_3 (Z : State) (a1 : Addr) (p2 : Int32) (p4 : Int32) (a10 : Addr) (k13 : ClassId) (p14 : Int32) (p15 : Int32) (h0 : Heap) (n0 : Nat) (v : Option Value) (h : Heap) (L : List Loc) : Prop := v = some (.int (own_f23_m17 p2 p14 p15)) ∧ Fr n0 L ∧ h = h0
set_option maxRecDepth 65536 in
set_option maxHeartbeats 40000000 in
theorem rm11_3 (l : Launch) (Z : State) (a0 : Array Value) (hw : HW a0 Z) (ws : List Jvm.Cond) (a1 : Addr) (p2 : Int32) (p4 : Int32) (a10 : Addr) (k13 : ClassId) (p14 : Int32) (p15 : Int32) (h0 : Heap) (n0 : Nat) (Z0 : n0 ≤ h0.size) (f3 : Exa Z h0 a1 cC3) (f5 : Sta Z Z.heap "java/lang/String" "COMPACT_STRINGS" "Z" (.int p4)) (f6 : Old Z n0 h0) (f7 : ¬ (p4 = (0 : Int32))) (f8 : Fld Z h0 a1 cC3 "coder" "B" (VI 0)) (f11 : Fld Z h0 a1 cC3 "value" "[B" (VR a10)) (f16 : Arv Z h0 a10 k13 .byte 2 [VI p14, VI p15] (VI 0)) (f18 : ¬ (p2 < (0 : Int32))) (f19 : ¬ ((255 : Int32) < p2)) :
    MetFree l yM15 (head1 (Jvm.Cond.code yM15 jdk_42_method_80_code 3 (some .int) :: ws) ({ frames := 2, cells := 0, slots := 0, locals := 32 } : Room)) (fun a U => a = #[(.ref a1), (.int p2), (.int (0 : Int32))] ∧ Z.Warmed39 U.vm ∧ U.heap = h0) (fun _ _ _ _ _ => True) (fun _ U o U' => ∃ v L, o = .returned v ∧ Q11_3 Z a1 p2 p4 a10 k13 p14 p15 h0 n0 v U'.heap L ∧ FrameEnd U o U' L ({ frames := 2, cells := 0, slots := 0, locals := 32 } : Room).cells ({ frames := 2, cells := 0, slots := 0, locals := 32 } : Room).slots) := by
  refine own_enter (n0 := n0) (plainFor_of_name pn3) (fun m => ef11_3 m a1 p2) ?_
  intro p e s m below meth c s₁ hx hby hml hown hnm hret hlk X0 e0 hZ hh N0
  show own_Fin p e below _ s₁ (mkF m 0 #[SR a1, SI p2, SI 0] [])
  refine own_go (fun _ k => XS.aloadN X0.here hx rfl (hb hby d11_0) rfl rfl k) ?_
  show own_Fin p e below _ s₁ (mkF m 1 #[SR a1, SI p2, SI 0] [VR a1])
  obtain ⟨_, T9, L9, X9, hQ9, st9⟩ := own_cV X0 hx hZ hown (WW hw 67) (WW hw 68) (notFace_of_selects (args := #[]) (mvT hZ (WW hw 70))) (WW hw 70) (WW hw 69) (WW hw 12) (WW hw 71) (rm12_1 l Z a0 hw [] a1 p4 h0 n0 Z0 f5 f6 f7 f8) e0 f3 hml (g := (mkF m 1 #[SR a1, SI p2, SI 0] [VR a1])) pd8 (hb hby d11_1) [] [] (W := 0)
  obtain ⟨rfl, N9q, e9⟩ := hQ9
  have N9 := Fr.app N0 N9q
  refine own_go st9 ?_
  show own_Fin p e below _ T9 (mkF m 4 #[SR a1, SI p2, SI 0] [VI 1])
  refine own_go (fun _ k => XS.ifNo X9.here hx rfl (hb hby d11_4) rfl ((if0 _ _).trans (feq (by decide : ¬ ((1 : Int32) = (0 : Int32)))).1) (XS.aloadN X9.here hx rfl (hb hby d11_7) rfl rfl k)) ?_
  show own_Fin p e below _ T9 (mkF m 8 #[SR a1, SI p2, SI 0] [VR a1])
  obtain ⟨T12, X12, e12, st12⟩ := getF X9 hx hZ hown (host := "") (Or.inl (WW hw 30)) Via.refl e9 f11 (g := (mkF m 8 #[SR a1, SI p2, SI 0] [VR a1])) rfl rfl (hb hby d11_8)
  refine own_go st12 ?_
  show own_Fin p e below _ T12 (mkF m 11 #[SR a1, SI p2, SI 0] [VR a10])
  refine own_go (fun _ k => XS.iloadN X12.here hx rfl (hb hby d11_11) rfl (XS.iloadN X12.here hx rfl (hb hby d11_12) rfl (XS.aloadN X12.here hx rfl (hb hby d11_13) rfl rfl k))) ?_
  show own_Fin p e below _ T12 (mkF m 14 #[SR a1, SI p2, SI 0] [VR a1, VI 0, VI p2, VR a10])
  obtain ⟨_, T17, L17, X17, hQ17, st17⟩ := own_cV X12 hx hZ hown (WW hw 73) (WW hw 74) (notFace_of_selects (args := #[]) (mvT hZ (WW hw 76))) (WW hw 76) (WW hw 75) (WW hw 12) (WW hw 77) (rm13_3 l Z a0 hw [] a1 a10 k13 p14 p15 p4 h0 n0 Z0 f11 f16 f3 f5 f6 f7 f8) e12 f3 hml (g := (mkF m 14 #[SR a1, SI p2, SI 0] [VR a1, VI 0, VI p2, VR a10])) pd10 (hb hby d11_14) [] [VI 0, VI p2, VR a10] (W := 3)
  obtain ⟨rfl, N17q, e17⟩ := hQ17
  have N17 := Fr.app N9 N17q
  refine own_go st17 ?_
  show own_Fin p e below _ T17 (mkF m 17 #[SR a1, SI p2, SI 0] [VI 2, VI 0, VI p2, VR a10])
  obtain ⟨_, T20, L20, X20, hQ20, st20⟩ := own_cS X17 hx hZ hown (WW hw 83) (WW hw 84) (WW hw 85) (WW hw 86) (rm15_3 l Z a0 hw [] a10 p2 k13 p14 p15 h0 n0 Z0 f18 f19 f16) e17 hml (g := (mkF m 17 #[SR a1, SI p2, SI 0] [VI 2, VI 0, VI p2, VR a10])) pd12 (hb hby d11_17) [VR a10, VI p2, VI 0, VI 2] [] (W := 0)
  obtain ⟨rfl, N20q, e20⟩ := hQ20
  have N20 := Fr.app N17 N20q
  refine own_go st20 ?_
  show own_Fin p e below _ T20 (mkF m 20 #[SR a1, SI p2, SI 0] [VI (own_f23_m17 p2 p14 p15)])
  refine own_go (fun _ k => XS.goto X20.here hx rfl (pc0 := 20) (pc' := 36) rfl (hb hby d11_20) (by decide) (by decide) k) ?_
  show own_Fin p e below _ T20 (mkF m 36 #[SR a1, SI p2, SI 0] [VI (own_f23_m17 p2 p14 p15)])
  obtain ⟨fs, hr, hrun, hended, hW, hsame⟩ := X20.leave (v := some (.int (own_f23_m17 p2 p14 p15))) (fun h => by rw [hret] at h; cases h)
  refine own_end (retOut X20 hx hret rfl (Or.inl ⟨rfl, Or.inl rfl, _, rfl⟩) (hb hby d11_36) hr) hrun hended ⟨_, _, rfl, ?_, ⟨_, rfl⟩, hW, hsame.mono (by decide) (by decide)⟩
  show Q11_3 Z a1 p2 p4 a10 k13 p14 p15 h0 n0 _ T20.heap _
  rw [e20]
  exact ⟨rfl, N20, rfl⟩
theorem ef10_3 (m : MethodId) (a1 : Addr) (p2 : Int32) : entryFrame m #[(.ref a1), (.int p2)] 2 = mkF m 0 #[SR a1, SI p2] [] := by first | (simp [entryFrame, mkF, argsToLocals, Value.category]; done) | rfl
def Q10_3 (Z : State) (a1 : Addr) (p2 : Int32) (p4 : Int32) (a9 : Addr) (k11 : ClassId) (p12 : Int32) (p13 : Int32) (h0 : Heap) (n0 : Nat) (v : Option Value) (h : Heap) (L : List Loc) : Prop := v = some (.int (own_f23_m17 p2 p12 p13)) ∧ Fr n0 L ∧ h = h0
set_option maxRecDepth 65536 in
set_option maxHeartbeats 40000000 in
theorem rm10_3 (l : Launch) (Z : State) (a0 : Array Value) (hw : HW a0 Z) (ws : List Jvm.Cond) (a1 : Addr) (p2 : Int32) (p4 : Int32) (a9 : Addr) (k11 : ClassId) (p12 : Int32) (p13 : Int32) (h0 : Heap) (n0 : Nat) (Z0 : n0 ≤ h0.size) (f3 : Exa Z h0 a1 cC3) (f5 : Sta Z Z.heap "java/lang/String" "COMPACT_STRINGS" "Z" (.int p4)) (f6 : Old Z n0 h0) (f7 : ¬ (p4 = (0 : Int32))) (f8 : Fld Z h0 a1 cC3 "coder" "B" (VI 0)) (f10 : Fld Z h0 a1 cC3 "value" "[B" (VR a9)) (f14 : Arv Z h0 a9 k11 .byte 2 [VI p12, VI p13] (VI 0)) (f15 : ¬ (p2 < (0 : Int32))) (f16 : ¬ ((255 : Int32) < p2)) :
    MetFree l yM16 (head1 (Jvm.Cond.code yM16 jdk_42_method_79_code 2 (some .int) :: ws) ({ frames := 3, cells := 0, slots := 0, locals := 46 } : Room)) (fun a U => a = #[(.ref a1), (.int p2)] ∧ Z.Warmed39 U.vm ∧ U.heap = h0) (fun _ _ _ _ _ => True) (fun _ U o U' => ∃ v L, o = .returned v ∧ Q10_3 Z a1 p2 p4 a9 k11 p12 p13 h0 n0 v U'.heap L ∧ FrameEnd U o U' L ({ frames := 3, cells := 0, slots := 0, locals := 46 } : Room).cells ({ frames := 3, cells := 0, slots := 0, locals := 46 } : Room).slots) := by
  refine own_enter (n0 := n0) (plainFor_of_name pn3) (fun m => ef10_3 m a1 p2) ?_
  intro p e s m below meth c s₁ hx hby hml hown hnm hret hlk X0 e0 hZ hh N0
  show own_Fin p e below _ s₁ (mkF m 0 #[SR a1, SI p2] [])
  refine own_go (fun _ k => XS.aloadN X0.here hx rfl (hb hby d10_0) rfl rfl (XS.iloadN X0.here hx rfl (hb hby d10_1) rfl (XS.iconst X0.here hx rfl (hb hby d10_2) k))) ?_
  show own_Fin p e below _ s₁ (mkF m 3 #[SR a1, SI p2] [VI 0, VI p2, VR a1])
  obtain ⟨_, T17, L17, X17, hQ17, st17⟩ := own_cV X0 hx hZ hown (WW hw 62) (WW hw 63) (notFace_of_selects (args := #[]) (mvT hZ (WW hw 65))) (WW hw 65) (WW hw 64) (WW hw 12) (WW hw 66) (rm11_3 l Z a0 hw [] a1 p2 p4 a9 k11 p12 p13 h0 n0 Z0 f3 f5 f6 f7 f8 f10 f14 f15 f16) e0 f3 hml (g := (mkF m 3 #[SR a1, SI p2] [VI 0, VI p2, VR a1])) pd11 (hb hby d10_3) [VI p2, VI 0] [] (W := 0)
  obtain ⟨rfl, N17q, e17⟩ := hQ17
  have N17 := Fr.app N0 N17q
  refine own_go st17 ?_
  show own_Fin p e below _ T17 (mkF m 6 #[SR a1, SI p2] [VI (own_f23_m17 p2 p12 p13)])
  obtain ⟨fs, hr, hrun, hended, hW, hsame⟩ := X17.leave (v := some (.int (own_f23_m17 p2 p12 p13))) (fun h => by rw [hret] at h; cases h)
  refine own_end (retOut X17 hx hret rfl (Or.inl ⟨rfl, Or.inl rfl, _, rfl⟩) (hb hby d10_6) hr) hrun hended ⟨_, _, rfl, ?_, ⟨_, rfl⟩, hW, hsame.mono (by decide) (by decide)⟩
  show Q10_3 Z a1 p2 p4 a9 k11 p12 p13 h0 n0 _ T17.heap _
  rw [e17]
  exact ⟨rfl, N17, rfl⟩
theorem own_link_23_m17_8_m13 (x : Int32) : ((own_f8_m13 x) = (0 : Int32) → ¬ (own_f23_m17 (63 : Int32) ((nar .char (own_f19_m4 x)).toInt8.toInt32) ((nar .char (own_f19_m5 x)).toInt8.toInt32)) < (0 : Int32)) ∧ (¬ (own_f8_m13 x) = (0 : Int32) → (own_f23_m17 (63 : Int32) ((nar .char (own_f19_m4 x)).toInt8.toInt32) ((nar .char (own_f19_m5 x)).toInt8.toInt32)) < (0 : Int32)) := by
  rcases Classical.em (own_f19_m4 x = (63 : Int32)) with a0 | a0 <;> rcases Classical.em (own_f19_m5 x = (63 : Int32)) with a1 | a1 <;> simp [own_f23_m17, own_f8_m13, (by decide : ((63 : Int32).toInt8.toInt32) = (63 : Int32)), (by decide : (nar .char (63 : Int32)).toInt8.toInt32 = (63 : Int32)), own_b63_19_m4, own_b63_19_m5, a0, a1]
theorem ef9_4 (m : MethodId) (a1 : Addr) : entryFrame m #[(.ref a1)] 1 = mkF m 0 #[SR a1] [] := by first | (simp [entryFrame, mkF, argsToLocals, Value.category]; done) | rfl
def Q9_4 (Z : State) (a1 : Addr) (a2 : Addr) (p6 : Int32) (a11 : Addr) (k13 : ClassId) (a16 : Addr) (a21 : Addr) (k23 : ClassId) (p24 : Int32) (p25 : Int32) (h0 : Heap) (n0 : Nat) (v : Option Value) (h : Heap) (L : List Loc) : Prop := v = some (.int (0 : Int32)) ∧ Fr n0 L ∧ h = h0
set_option maxRecDepth 65536 in
set_option maxHeartbeats 40000000 in
theorem rm9_4 (l : Launch) (Z : State) (a0 : Array Value) (hw : HW a0 Z) (ws : List Jvm.Cond) (a1 : Addr) (a2 : Addr) (p6 : Int32) (a11 : Addr) (k13 : ClassId) (a16 : Addr) (a21 : Addr) (k23 : ClassId) (p24 : Int32) (p25 : Int32) (h0 : Heap) (n0 : Nat) (Z0 : n0 ≤ h0.size) (f3 : Fld Z h0 a1 cC0 "article" cC1 (VR a2)) (f5 : Exa Z h0 a2 cC3) (f7 : Sta Z Z.heap "java/lang/String" "COMPACT_STRINGS" "Z" (.int p6)) (f8 : Old Z n0 h0) (f9 : ¬ (p6 = (0 : Int32))) (f10 : Fld Z h0 a2 cC3 "coder" "B" (VI 0)) (f12 : Fld Z h0 a2 cC3 "value" "[B" (VR a11)) (f14 : Arv Z h0 a11 k13 .byte 0 [] (VI 0)) (f17 : Fld Z h0 a1 cC0 "clause" cC1 (VR a16)) (f19 : Exa Z h0 a16 cC3) (f20 : Fld Z h0 a16 cC3 "coder" "B" (VI 0)) (f22 : Fld Z h0 a16 cC3 "value" "[B" (VR a21)) (f26 : Arv Z h0 a21 k23 .byte 2 [VI p24, VI p25] (VI 0)) (f28 : ¬ ((own_f23_m17 (63 : Int32) p24 p25) < (0 : Int32))) :
    MetFree l yM17 (head1 (Jvm.Cond.code yM17 prog_105_method_2_code 1 (some .boolean) :: ws) ({ frames := 4, cells := 0, slots := 0, locals := 59 } : Room)) (fun a U => a = #[(.ref a1)] ∧ Z.Warmed39 U.vm ∧ U.heap = h0) (fun _ _ _ _ _ => True) (fun _ U o U' => ∃ v L, o = .returned v ∧ Q9_4 Z a1 a2 p6 a11 k13 a16 a21 k23 p24 p25 h0 n0 v U'.heap L ∧ FrameEnd U o U' L ({ frames := 4, cells := 0, slots := 0, locals := 59 } : Room).cells ({ frames := 4, cells := 0, slots := 0, locals := 59 } : Room).slots) := by
  refine own_enter (n0 := n0) (plainFor_of_name pn6) (fun m => ef9_4 m a1) ?_
  intro p e s m below meth c s₁ hx hby hml hown hnm hret hlk X0 e0 hZ hh N0
  show own_Fin p e below _ s₁ (mkF m 0 #[SR a1] [])
  refine own_go (fun _ k => XS.aloadN X0.here hx rfl (hb hby d9_0) rfl rfl k) ?_
  show own_Fin p e below _ s₁ (mkF m 1 #[SR a1] [VR a1])
  obtain ⟨T4, X4, e4, st4⟩ := getF X0 hx hZ hown (host := "") (Or.inl (WW hw 43)) Via.refl e0 f3 (g := (mkF m 1 #[SR a1] [VR a1])) rfl rfl (hb hby d9_1)
  refine own_go st4 ?_
  show own_Fin p e below _ T4 (mkF m 4 #[SR a1] [VR a2])
  refine own_go (fun _ k => XS.bipush X4.here hx rfl (hb hby d9_4) k) ?_
  show own_Fin p e below _ T4 (mkF m 6 #[SR a1] [VI 63, VR a2])
  obtain ⟨_, T15, L15, X15, hQ15, st15⟩ := own_cV X4 hx hZ hown (WW hw 57) (WW hw 58) (notFace_of_selects (args := #[]) (mvT hZ (WW hw 60))) (WW hw 60) (WW hw 59) (WW hw 12) (WW hw 61) (rm10_1 l Z a0 hw [] a2 (63 : Int32) p6 a11 k13 h0 n0 Z0 f5 f7 f8 f9 f10 f12 f14 (by decide : ¬ ((63 : Int32) < (0 : Int32))) (by decide : ¬ ((255 : Int32) < (63 : Int32)))) e4 f5 hml (g := (mkF m 6 #[SR a1] [VI 63, VR a2])) pd0 (hb hby d9_6) [VI 63] [] (W := 0)
  obtain ⟨rfl, N15q, e15⟩ := hQ15
  have N15 := Fr.app N0 N15q
  refine own_go st15 ?_
  show own_Fin p e below _ T15 (mkF m 9 #[SR a1] [VI (-1)])
  refine own_go (fun _ k => XS.ifNo X15.here hx rfl (hb hby d9_9) rfl ((if0 _ _).trans (tlt (by decide : (-1 : Int32) < (0 : Int32))).2.1) (XS.aloadN X15.here hx rfl (hb hby d9_12) rfl rfl k)) ?_
  show own_Fin p e below _ T15 (mkF m 13 #[SR a1] [VR a1])
  obtain ⟨T18, X18, e18, st18⟩ := getF X15 hx hZ hown (host := "") (Or.inl (WW hw 45)) Via.refl e15 f17 (g := (mkF m 13 #[SR a1] [VR a1])) rfl rfl (hb hby d9_13)
  refine own_go st18 ?_
  show own_Fin p e below _ T18 (mkF m 16 #[SR a1] [VR a16])
  refine own_go (fun _ k => XS.bipush X18.here hx rfl (hb hby d9_16) k) ?_
  show own_Fin p e below _ T18 (mkF m 18 #[SR a1] [VI 63, VR a16])
  obtain ⟨_, T27, L27, X27, hQ27, st27⟩ := own_cV X18 hx hZ hown (WW hw 57) (WW hw 58) (notFace_of_selects (args := #[]) (mvT hZ (WW hw 60))) (WW hw 60) (WW hw 59) (WW hw 12) (WW hw 61) (rm10_3 l Z a0 hw [] a16 (63 : Int32) p6 a21 k23 p24 p25 h0 n0 Z0 f19 f7 f8 f9 f20 f22 f26 (by decide : ¬ ((63 : Int32) < (0 : Int32))) (by decide : ¬ ((255 : Int32) < (63 : Int32)))) e18 f19 hml (g := (mkF m 18 #[SR a1] [VI 63, VR a16])) pd0 (hb hby d9_18) [VI 63] [] (W := 0)
  obtain ⟨rfl, N27q, e27⟩ := hQ27
  have N27 := Fr.app N15 N27q
  refine own_go st27 ?_
  show own_Fin p e below _ T27 (mkF m 21 #[SR a1] [VI (own_f23_m17 (63 : Int32) p24 p25)])
  refine own_go (fun _ k => XS.ifYes X27.here hx rfl (pc0 := 21) (pc' := 28) rfl (hb hby d9_21) rfl ((if0 _ _).trans (flt f28).2.1) (by decide) (by decide) (XS.iconst X27.here hx rfl (hb hby d9_28) k)) ?_
  show own_Fin p e below _ T27 (mkF m 29 #[SR a1] [VI 0])
  obtain ⟨fs, hr, hrun, hended, hW, hsame⟩ := X27.leave (v := some (.int (0 : Int32))) (fun h => by rw [hret] at h; cases h)
  refine own_end (retN X27 hx (t := .boolean) hret (by simp) (hb hby d9_29) hr) hrun hended ⟨_, _, rfl, ?_, ⟨_, rfl⟩, hW, hsame.mono (by decide) (by decide)⟩
  show Q9_4 Z a1 a2 p6 a11 k13 a16 a21 k23 p24 p25 h0 n0 _ T27.heap _
  rw [e27]
  exact ⟨rfl, N27, rfl⟩
theorem ef9_5 (m : MethodId) (a1 : Addr) : entryFrame m #[(.ref a1)] 1 = mkF m 0 #[SR a1] [] := by first | (simp [entryFrame, mkF, argsToLocals, Value.category]; done) | rfl
def Q9_5 (Z : State) (a1 : Addr) (a2 : Addr) (p6 : Int32) (a11 : Addr) (k13 : ClassId) (a16 : Addr) (a21 : Addr) (k23 : ClassId) (p24 : Int32) (p25 : Int32) (h0 : Heap) (n0 : Nat) (v : Option Value) (h : Heap) (L : List Loc) : Prop := v = some (.int (1 : Int32)) ∧ Fr n0 L ∧ h = h0
set_option maxRecDepth 65536 in
set_option maxHeartbeats 40000000 in
theorem rm9_5 (l : Launch) (Z : State) (a0 : Array Value) (hw : HW a0 Z) (ws : List Jvm.Cond) (a1 : Addr) (a2 : Addr) (p6 : Int32) (a11 : Addr) (k13 : ClassId) (a16 : Addr) (a21 : Addr) (k23 : ClassId) (p24 : Int32) (p25 : Int32) (h0 : Heap) (n0 : Nat) (Z0 : n0 ≤ h0.size) (f3 : Fld Z h0 a1 cC0 "article" cC1 (VR a2)) (f5 : Exa Z h0 a2 cC3) (f7 : Sta Z Z.heap "java/lang/String" "COMPACT_STRINGS" "Z" (.int p6)) (f8 : Old Z n0 h0) (f9 : ¬ (p6 = (0 : Int32))) (f10 : Fld Z h0 a2 cC3 "coder" "B" (VI 0)) (f12 : Fld Z h0 a2 cC3 "value" "[B" (VR a11)) (f14 : Arv Z h0 a11 k13 .byte 0 [] (VI 0)) (f17 : Fld Z h0 a1 cC0 "clause" cC1 (VR a16)) (f19 : Exa Z h0 a16 cC3) (f20 : Fld Z h0 a16 cC3 "coder" "B" (VI 0)) (f22 : Fld Z h0 a16 cC3 "value" "[B" (VR a21)) (f26 : Arv Z h0 a21 k23 .byte 2 [VI p24, VI p25] (VI 0)) (f28 : (own_f23_m17 (63 : Int32) p24 p25) < (0 : Int32)) :
    MetFree l yM17 (head1 (Jvm.Cond.code yM17 prog_105_method_2_code 1 (some .boolean) :: ws) ({ frames := 4, cells := 0, slots := 0, locals := 59 } : Room)) (fun a U => a = #[(.ref a1)] ∧ Z.Warmed39 U.vm ∧ U.heap = h0) (fun _ _ _ _ _ => True) (fun _ U o U' => ∃ v L, o = .returned v ∧ Q9_5 Z a1 a2 p6 a11 k13 a16 a21 k23 p24 p25 h0 n0 v U'.heap L ∧ FrameEnd U o U' L ({ frames := 4, cells := 0, slots := 0, locals := 59 } : Room).cells ({ frames := 4, cells := 0, slots := 0, locals := 59 } : Room).slots) := by
  refine own_enter (n0 := n0) (plainFor_of_name pn6) (fun m => ef9_5 m a1) ?_
  intro p e s m below meth c s₁ hx hby hml hown hnm hret hlk X0 e0 hZ hh N0
  show own_Fin p e below _ s₁ (mkF m 0 #[SR a1] [])
  refine own_go (fun _ k => XS.aloadN X0.here hx rfl (hb hby d9_0) rfl rfl k) ?_
  show own_Fin p e below _ s₁ (mkF m 1 #[SR a1] [VR a1])
  obtain ⟨T4, X4, e4, st4⟩ := getF X0 hx hZ hown (host := "") (Or.inl (WW hw 43)) Via.refl e0 f3 (g := (mkF m 1 #[SR a1] [VR a1])) rfl rfl (hb hby d9_1)
  refine own_go st4 ?_
  show own_Fin p e below _ T4 (mkF m 4 #[SR a1] [VR a2])
  refine own_go (fun _ k => XS.bipush X4.here hx rfl (hb hby d9_4) k) ?_
  show own_Fin p e below _ T4 (mkF m 6 #[SR a1] [VI 63, VR a2])
  obtain ⟨_, T15, L15, X15, hQ15, st15⟩ := own_cV X4 hx hZ hown (WW hw 57) (WW hw 58) (notFace_of_selects (args := #[]) (mvT hZ (WW hw 60))) (WW hw 60) (WW hw 59) (WW hw 12) (WW hw 61) (rm10_1 l Z a0 hw [] a2 (63 : Int32) p6 a11 k13 h0 n0 Z0 f5 f7 f8 f9 f10 f12 f14 (by decide : ¬ ((63 : Int32) < (0 : Int32))) (by decide : ¬ ((255 : Int32) < (63 : Int32)))) e4 f5 hml (g := (mkF m 6 #[SR a1] [VI 63, VR a2])) pd0 (hb hby d9_6) [VI 63] [] (W := 0)
  obtain ⟨rfl, N15q, e15⟩ := hQ15
  have N15 := Fr.app N0 N15q
  refine own_go st15 ?_
  show own_Fin p e below _ T15 (mkF m 9 #[SR a1] [VI (-1)])
  refine own_go (fun _ k => XS.ifNo X15.here hx rfl (hb hby d9_9) rfl ((if0 _ _).trans (tlt (by decide : (-1 : Int32) < (0 : Int32))).2.1) (XS.aloadN X15.here hx rfl (hb hby d9_12) rfl rfl k)) ?_
  show own_Fin p e below _ T15 (mkF m 13 #[SR a1] [VR a1])
  obtain ⟨T18, X18, e18, st18⟩ := getF X15 hx hZ hown (host := "") (Or.inl (WW hw 45)) Via.refl e15 f17 (g := (mkF m 13 #[SR a1] [VR a1])) rfl rfl (hb hby d9_13)
  refine own_go st18 ?_
  show own_Fin p e below _ T18 (mkF m 16 #[SR a1] [VR a16])
  refine own_go (fun _ k => XS.bipush X18.here hx rfl (hb hby d9_16) k) ?_
  show own_Fin p e below _ T18 (mkF m 18 #[SR a1] [VI 63, VR a16])
  obtain ⟨_, T27, L27, X27, hQ27, st27⟩ := own_cV X18 hx hZ hown (WW hw 57) (WW hw 58) (notFace_of_selects (args := #[]) (mvT hZ (WW hw 60))) (WW hw 60) (WW hw 59) (WW hw 12) (WW hw 61) (rm10_3 l Z a0 hw [] a16 (63 : Int32) p6 a21 k23 p24 p25 h0 n0 Z0 f19 f7 f8 f9 f20 f22 f26 (by decide : ¬ ((63 : Int32) < (0 : Int32))) (by decide : ¬ ((255 : Int32) < (63 : Int32)))) e18 f19 hml (g := (mkF m 18 #[SR a1] [VI 63, VR a16])) pd0 (hb hby d9_18) [VI 63] [] (W := 0)
  obtain ⟨rfl, N27q, e27⟩ := hQ27
  have N27 := Fr.app N15 N27q
  refine own_go st27 ?_
  show own_Fin p e below _ T27 (mkF m 21 #[SR a1] [VI (own_f23_m17 (63 : Int32) p24 p25)])
  refine own_go (fun _ k => XS.ifNo X27.here hx rfl (hb hby d9_21) rfl ((if0 _ _).trans (tlt f28).2.1) (XS.iconst X27.here hx rfl (hb hby d9_24) (XS.goto X27.here hx rfl (pc0 := 25) (pc' := 29) rfl (hb hby d9_25) (by decide) (by decide) k))) ?_
  show own_Fin p e below _ T27 (mkF m 29 #[SR a1] [VI 1])
  obtain ⟨fs, hr, hrun, hended, hW, hsame⟩ := X27.leave (v := some (.int (1 : Int32))) (fun h => by rw [hret] at h; cases h)
  refine own_end (retN X27 hx (t := .boolean) hret (by simp) (hb hby d9_29) hr) hrun hended ⟨_, _, rfl, ?_, ⟨_, rfl⟩, hW, hsame.mono (by decide) (by decide)⟩
  show Q9_5 Z a1 a2 p6 a11 k13 a16 a21 k23 p24 p25 h0 n0 _ T27.heap _
  rw [e27]
  exact ⟨rfl, N27, rfl⟩
theorem ef1_5 (m : MethodId) (p1 : Int32) : entryFrame m #[(.int p1)] 2 = mkF m 0 #[SI p1, SU] [] := by first | (simp [entryFrame, mkF, argsToLocals, Value.category]; done) | rfl
def Q1_5 (Z : State) (p1 : Int32) (p32 : Int32) (h0 : Heap) (n0 : Nat) (v : Option Value) (h : Heap) (L : List Loc) : Prop := ∃ (b6 : Addr) (t27 : Addr) (kb27 : ClassId), v = some (.ref b6) ∧ Fr n0 L ∧ Keep h0 h [] ∧ h0.size ≤ b6 ∧ h0.size ≤ t27 ∧ b6 ≠ t27 ∧ Exa Z h b6 cC3 ∧ Fld Z h b6 cC3 "coder" "B" (VI 0) ∧ Fld Z h b6 cC3 "value" "[B" (VR t27) ∧ Arv Z h t27 kb27 .byte 3 [VI ((nar .char (own_f19_m4 p1)).toInt8.toInt32), VI ((nar .char (own_f19_m5 p1)).toInt8.toInt32), VI ((nar .char (own_f19_m6 p1)).toInt8.toInt32)] (VI 0)
set_option maxRecDepth 65536 in
set_option maxHeartbeats 40000000 in
theorem rm1_5 (l : Launch) (Z : State) (a0 : Array Value) (hw : HW a0 Z) (ws : List Jvm.Cond) (p1 : Int32) (p32 : Int32) (h0 : Heap) (n0 : Nat) (Z0 : n0 ≤ h0.size) (f3 : ¬ ((((p1.toUInt32 >>> ((24 : Int32) &&& 31).toUInt32).toInt32) &&& (3 : Int32)) = (0 : Int32))) (f4 : ¬ ((((p1.toUInt32 >>> ((24 : Int32) &&& 31).toUInt32).toInt32) &&& (3 : Int32)) = (1 : Int32))) (f5 : ¬ ((((p1.toUInt32 >>> ((24 : Int32) &&& 31).toUInt32).toInt32) &&& (3 : Int32)) = (2 : Int32))) (f33 : Sta Z Z.heap "java/lang/String" "COMPACT_STRINGS" "Z" (.int p32)) (f34 : Old Z n0 h0) (f36 : ¬ (p32 = (0 : Int32))) :
    MetFree l yM4 (head1 (Jvm.Cond.code yM4 method_5_code 2 (some (.object "java/lang/String")) :: ws) ({ frames := 4, cells := 3, slots := 10, locals := 66 } : Room)) (fun a U => a = #[(.int p1)] ∧ Z.Warmed39 U.vm ∧ U.heap = h0) (fun _ _ _ _ _ => True) (fun _ U o U' => ∃ v L, o = .returned v ∧ Q1_5 Z p1 p32 h0 n0 v U'.heap L ∧ FrameEnd U o U' L ({ frames := 4, cells := 3, slots := 10, locals := 66 } : Room).cells ({ frames := 4, cells := 3, slots := 10, locals := 66 } : Room).slots) := by
  refine own_enter (n0 := n0) (plainFor_of_name pn0) (fun m => ef1_5 m p1) ?_
  intro p e s m below meth c s₁ hx hby hml hown hnm hret hlk X0 e0 hZ hh N0
  show own_Fin p e below _ s₁ (mkF m 0 #[SI p1, SU] [])
  refine own_go (fun _ k => XS.iloadN X0.here hx rfl (hb hby d1_0) rfl k) ?_
  show own_Fin p e below _ s₁ (mkF m 1 #[SI p1, SU] [VI p1])
  obtain ⟨_, T2, L2, X2, hQ2, st2⟩ := own_cS X0 hx hZ hown (WW hw 7) (WW hw 8) (WW hw 5) (WW hw 9) (rm2_1 l Z a0 hw [] p1 h0 n0 Z0 ) e0 hml (g := (mkF m 1 #[SI p1, SU] [VI p1])) pd0 (hb hby d1_1) [VI p1] [] (W := 0)
  obtain ⟨rfl, N2q, e2⟩ := hQ2
  have N2 := Fr.app N0 N2q
  refine own_go st2 ?_
  show own_Fin p e below _ T2 (mkF m 4 #[SI p1, SU] [VI (((p1.toUInt32 >>> ((24 : Int32) &&& 31).toUInt32).toInt32) &&& (3 : Int32))])
  refine own_go (fun _ k => XS.istoreN X2.here hx rfl (hb hby d1_4) rfl (l' := #[SI p1, SI (((p1.toUInt32 >>> ((24 : Int32) &&& 31).toUInt32).toInt32) &&& (3 : Int32))]) rfl (XS.iloadN X2.here hx rfl (hb hby d1_5) rfl (XS.ifYes X2.here hx rfl (pc0 := 6) (pc' := 20) rfl (hb hby d1_6) rfl ((if0 _ _).trans (feq f3).2) (by decide) (by decide) (XS.iloadN X2.here hx rfl (hb hby d1_20) rfl (XS.iconst X2.here hx rfl (hb hby d1_21) (XS.icmpYes X2.here hx rfl (pc0 := 22) (pc' := 44) rfl (hb hby d1_22) rfl (feq f4).2 (by decide) (by decide) (XS.iloadN X2.here hx rfl (hb hby d1_44) rfl (XS.iconst X2.here hx rfl (hb hby d1_45) (XS.icmpYes X2.here hx rfl (pc0 := 46) (pc' := 76) rfl (hb hby d1_46) rfl (feq f5).2 (by decide) (by decide) k))))))))) ?_
  show own_Fin p e below _ T2 (mkF m 76 #[SI p1, SI (((p1.toUInt32 >>> ((24 : Int32) &&& 31).toUInt32).toInt32) &&& (3 : Int32))] [])
  obtain ⟨T6, h6, X6, e6, E6, A6, D6, -, st6⟩ := newO X2 hx hZ hown (WW hw 10) (WW hw 11) (WW hw 12) e2 (g := (mkF m 76 #[SI p1, SI (((p1.toUInt32 >>> ((24 : Int32) &&& 31).toUInt32).toInt32) &&& (3 : Int32))] [])) rfl (hb hby d1_76) (by decide) (by decide)
  obtain ⟨b6, g6⟩ : ∃ z, z = h0.size := ⟨_, rfl⟩
  rw [← g6] at A6 D6 st6
  have F7 : Fld Z h6 b6 cC3 "value" "[B" (.null) := D6 (Or.inr (WW hw 26)) (ty := (.array .byte)) (by decide)
  have F8 : Fld Z h6 b6 cC3 "coder" "B" (VI 0) := D6 (Or.inr (WW hw 27)) (ty := .byte) (by decide)
  refine own_go st6 ?_
  show own_Fin p e below _ T6 (mkF m 79 #[SI p1, SI (((p1.toUInt32 >>> ((24 : Int32) &&& 31).toUInt32).toInt32) &&& (3 : Int32))] [VR b6])
  refine own_go (fun _ k => XS.dup X6.here hx rfl (hb hby d1_79) rfl rfl (XS.iconst X6.here hx rfl (hb hby d1_80) k)) ?_
  show own_Fin p e below _ T6 (mkF m 81 #[SI p1, SI (((p1.toUInt32 >>> ((24 : Int32) &&& 31).toUInt32).toInt32) &&& (3 : Int32))] [VI 3, VR b6, VR b6])
  obtain ⟨T9, h9, k9, X9, e9, E9, A9, st9⟩ := newP X6 hx hZ (WW hw 13) e6 (g := (mkF m 81 #[SI p1, SI (((p1.toUInt32 >>> ((24 : Int32) &&& 31).toUInt32).toInt32) &&& (3 : Int32))] [VI 3, VR b6, VR b6])) rfl (hb hby d1_81) rfl (by decide) (cap := 3) (by decide) (by decide) (by decide) (by decide)
  obtain ⟨b9, g9⟩ : ∃ z, z = h6.size := ⟨_, rfl⟩
  rw [← g9] at A9 st9
  have V9 : Arv Z h9 b9 k9 .char 3 [VI 0, VI 0, VI 0] (VI 0) := (Arv.new A9 (by decide)).pad (pad_rep [] (.int (0 : Int32)) 3)
  refine own_go st9 ?_
  show own_Fin p e below _ T9 (mkF m 83 #[SI p1, SI (((p1.toUInt32 >>> ((24 : Int32) &&& 31).toUInt32).toInt32) &&& (3 : Int32))] [VR b9, VR b6, VR b6])
  refine own_go (fun _ k => XS.dup X9.here hx rfl (hb hby d1_83) rfl rfl (XS.iconst X9.here hx rfl (hb hby d1_84) (XS.iloadN X9.here hx rfl (hb hby d1_85) rfl (XS.iconst X9.here hx rfl (hb hby d1_86) k)))) ?_
  show own_Fin p e below _ T9 (mkF m 87 #[SI p1, SI (((p1.toUInt32 >>> ((24 : Int32) &&& 31).toUInt32).toInt32) &&& (3 : Int32))] [VI 0, VI p1, VI 0, VR b9, VR b9, VR b6, VR b6])
  have z11 : h0.size ≤ h6.size := E6.1
  have z12 : h0.size ≤ h9.size := Nat.le_trans z11 E9.1
  obtain ⟨_, T10, L10, X10, hQ10, st10⟩ := own_cS X9 hx hZ hown (WW hw 97) (WW hw 98) (WW hw 5) (WW hw 99) (rm19_m4 l Z a0 hw [] p1 h9 n0 (Nat.le_trans Z0 z12) ) e9 hml (g := (mkF m 87 #[SI p1, SI (((p1.toUInt32 >>> ((24 : Int32) &&& 31).toUInt32).toInt32) &&& (3 : Int32))] [VI 0, VI p1, VI 0, VR b9, VR b9, VR b6, VR b6])) pd3 (hb hby d1_87) [VI p1, VI 0] [VI 0, VR b9, VR b9, VR b6, VR b6] (W := 5)
  obtain ⟨rfl, N10q, e10⟩ := hQ10
  have N10 := Fr.app N2 N10q
  refine own_go st10 ?_
  show own_Fin p e below _ T10 (mkF m 90 #[SI p1, SI (((p1.toUInt32 >>> ((24 : Int32) &&& 31).toUInt32).toInt32) &&& (3 : Int32))] [VI (own_f19_m4 p1), VI 0, VR b9, VR b9, VR b6, VR b6])
  obtain ⟨cl13, Ar13, q13, Sz13, Nn13, Hs13, Gg13⟩ := id V9
  have i14 : ¬ ((0 : Int32) < 0 ∨ cl13.slots.size ≤ ((0 : Int32)).toNatClampNeg) := inb_of Sz13 ⟨(by decide : ¬ ((0 : Int32) < (0 : Int32))), (by decide : (0 : Int32) < (3 : Int32))⟩
  obtain ⟨T15, h15, X15, e15, W15, st15⟩ := stC X10 hx hZ e10 Ar13 (j := (0 : Int32)) i14 (g := (mkF m 90 #[SI p1, SI (((p1.toUInt32 >>> ((24 : Int32) &&& 31).toUInt32).toInt32) &&& (3 : Int32))] [VI (own_f19_m4 p1), VI 0, VR b9, VR b9, VR b6, VR b6])) rfl rfl (hb hby d1_90)
  have u16 : n0 ≤ b9 := Nat.le_trans Z0 (Nat.le_trans z11 (Nat.le_of_eq g9.symm))
  have N15 := Fr.snoc X15 N10 u16
  have V15 : Arv Z h15 b9 k9 .char 3 [VI (nar .char (own_f19_m4 p1)), VI 0, VI 0] (VI 0) := Arv.set Ar13 q13 Sz13 Nn13 Hs13 Gg13 (fits_nar_char _) W15 0 rfl (Nat.le_of_ble_eq_true rfl)
  refine own_go st15 ?_
  show own_Fin p e below _ T15 (mkF m 91 #[SI p1, SI (((p1.toUInt32 >>> ((24 : Int32) &&& 31).toUInt32).toInt32) &&& (3 : Int32))] [VR b9, VR b6, VR b6])
  refine own_go (fun _ k => XS.dup X15.here hx rfl (hb hby d1_91) rfl rfl (XS.iconst X15.here hx rfl (hb hby d1_92) (XS.iloadN X15.here hx rfl (hb hby d1_93) rfl (XS.iconst X15.here hx rfl (hb hby d1_94) k)))) ?_
  show own_Fin p e below _ T15 (mkF m 95 #[SI p1, SI (((p1.toUInt32 >>> ((24 : Int32) &&& 31).toUInt32).toInt32) &&& (3 : Int32))] [VI 1, VI p1, VI 1, VR b9, VR b9, VR b6, VR b6])
  have z18 : h0.size ≤ h15.size := Nat.le_trans z12 (Nat.le_of_eq (Wr.size W15).symm)
  obtain ⟨_, T17, L17, X17, hQ17, st17⟩ := own_cS X15 hx hZ hown (WW hw 97) (WW hw 98) (WW hw 5) (WW hw 99) (rm19_m5 l Z a0 hw [] p1 h15 n0 (Nat.le_trans Z0 z18) ) e15 hml (g := (mkF m 95 #[SI p1, SI (((p1.toUInt32 >>> ((24 : Int32) &&& 31).toUInt32).toInt32) &&& (3 : Int32))] [VI 1, VI p1, VI 1, VR b9, VR b9, VR b6, VR b6])) pd3 (hb hby d1_95) [VI p1, VI 1] [VI 1, VR b9, VR b9, VR b6, VR b6] (W := 5)
  obtain ⟨rfl, N17q, e17⟩ := hQ17
  have N17 := Fr.app N15 N17q
  refine own_go st17 ?_
  show own_Fin p e below _ T17 (mkF m 98 #[SI p1, SI (((p1.toUInt32 >>> ((24 : Int32) &&& 31).toUInt32).toInt32) &&& (3 : Int32))] [VI (own_f19_m5 p1), VI 1, VR b9, VR b9, VR b6, VR b6])
  obtain ⟨cl19, Ar19, q19, Sz19, Nn19, Hs19, Gg19⟩ := id V15
  have i20 : ¬ ((1 : Int32) < 0 ∨ cl19.slots.size ≤ ((1 : Int32)).toNatClampNeg) := inb_of Sz19 ⟨(by decide : ¬ ((1 : Int32) < (0 : Int32))), (by decide : (1 : Int32) < (3 : Int32))⟩
  obtain ⟨T21, h21, X21, e21, W21, st21⟩ := stC X17 hx hZ e17 Ar19 (j := (1 : Int32)) i20 (g := (mkF m 98 #[SI p1, SI (((p1.toUInt32 >>> ((24 : Int32) &&& 31).toUInt32).toInt32) &&& (3 : Int32))] [VI (own_f19_m5 p1), VI 1, VR b9, VR b9, VR b6, VR b6])) rfl rfl (hb hby d1_98)
  have N21 := Fr.snoc X21 N17 u16
  have V21 : Arv Z h21 b9 k9 .char 3 [VI (nar .char (own_f19_m4 p1)), VI (nar .char (own_f19_m5 p1)), VI 0] (VI 0) := Arv.set Ar19 q19 Sz19 Nn19 Hs19 Gg19 (fits_nar_char _) W21 1 rfl (Nat.le_of_ble_eq_true rfl)
  refine own_go st21 ?_
  show own_Fin p e below _ T21 (mkF m 99 #[SI p1, SI (((p1.toUInt32 >>> ((24 : Int32) &&& 31).toUInt32).toInt32) &&& (3 : Int32))] [VR b9, VR b6, VR b6])
  refine own_go (fun _ k => XS.dup X21.here hx rfl (hb hby d1_99) rfl rfl (XS.iconst X21.here hx rfl (hb hby d1_100) (XS.iloadN X21.here hx rfl (hb hby d1_101) rfl (XS.iconst X21.here hx rfl (hb hby d1_102) k)))) ?_
  show own_Fin p e below _ T21 (mkF m 103 #[SI p1, SI (((p1.toUInt32 >>> ((24 : Int32) &&& 31).toUInt32).toInt32) &&& (3 : Int32))] [VI 2, VI p1, VI 2, VR b9, VR b9, VR b6, VR b6])
  have z23 : h0.size ≤ h21.size := Nat.le_trans z18 (Nat.le_of_eq (Wr.size W21).symm)
  obtain ⟨_, T22, L22, X22, hQ22, st22⟩ := own_cS X21 hx hZ hown (WW hw 97) (WW hw 98) (WW hw 5) (WW hw 99) (rm19_m6 l Z a0 hw [] p1 h21 n0 (Nat.le_trans Z0 z23) ) e21 hml (g := (mkF m 103 #[SI p1, SI (((p1.toUInt32 >>> ((24 : Int32) &&& 31).toUInt32).toInt32) &&& (3 : Int32))] [VI 2, VI p1, VI 2, VR b9, VR b9, VR b6, VR b6])) pd3 (hb hby d1_103) [VI p1, VI 2] [VI 2, VR b9, VR b9, VR b6, VR b6] (W := 5)
  obtain ⟨rfl, N22q, e22⟩ := hQ22
  have N22 := Fr.app N21 N22q
  refine own_go st22 ?_
  show own_Fin p e below _ T22 (mkF m 106 #[SI p1, SI (((p1.toUInt32 >>> ((24 : Int32) &&& 31).toUInt32).toInt32) &&& (3 : Int32))] [VI (own_f19_m6 p1), VI 2, VR b9, VR b9, VR b6, VR b6])
  obtain ⟨cl24, Ar24, q24, Sz24, Nn24, Hs24, Gg24⟩ := id V21
  have i25 : ¬ ((2 : Int32) < 0 ∨ cl24.slots.size ≤ ((2 : Int32)).toNatClampNeg) := inb_of Sz24 ⟨(by decide : ¬ ((2 : Int32) < (0 : Int32))), (by decide : (2 : Int32) < (3 : Int32))⟩
  obtain ⟨T26, h26, X26, e26, W26, st26⟩ := stC X22 hx hZ e22 Ar24 (j := (2 : Int32)) i25 (g := (mkF m 106 #[SI p1, SI (((p1.toUInt32 >>> ((24 : Int32) &&& 31).toUInt32).toInt32) &&& (3 : Int32))] [VI (own_f19_m6 p1), VI 2, VR b9, VR b9, VR b6, VR b6])) rfl rfl (hb hby d1_106)
  have N26 := Fr.snoc X26 N22 u16
  have V26 : Arv Z h26 b9 k9 .char 3 [VI (nar .char (own_f19_m4 p1)), VI (nar .char (own_f19_m5 p1)), VI (nar .char (own_f19_m6 p1))] (VI 0) := Arv.set Ar24 q24 Sz24 Nn24 Hs24 Gg24 (fits_nar_char _) W26 2 rfl (Nat.le_of_ble_eq_true rfl)
  refine own_go st26 ?_
  show own_Fin p e below _ T26 (mkF m 107 #[SI p1, SI (((p1.toUInt32 >>> ((24 : Int32) &&& 31).toUInt32).toInt32) &&& (3 : Int32))] [VR b9, VR b6, VR b6])
  have F28 : Exa Z h26 b6 cC3 := ((((A6.ext E9).wr W15).wr W21).wr W26)
  have v29 : b6 ≠ b9 := Nat.ne_of_lt (Nat.lt_of_lt_of_le A6.lt (Nat.le_of_eq g9.symm))
  have F30 : Fld Z h26 b6 cC3 "value" "[B" (.null) := ((((F7.ext E9).other W15 (Or.inl v29)).other W21 (Or.inl v29)).other W26 (Or.inl v29))
  have F31 : Fld Z h26 b6 cC3 "coder" "B" (VI 0) := ((((F8.ext E9).other W15 (Or.inl v29)).other W21 (Or.inl v29)).other W26 (Or.inl v29))
  have O35 : Old Z n0 h26 := (((((f34.ext E6).ext E9).wr W15 u16).wr W21 u16).wr W26 u16)
  have hws : ∀ d ∈ StrChars.Road.words, d.before a0 Z = true := fun d hd => hw d ((by decide +kernel : ∀ d ∈ StrChars.Road.words, d ∈ tables_1) d hd)
  have hp37 : ∀ c ∈ ([(nar .char (own_f19_m4 p1)), (nar .char (own_f19_m5 p1)), (nar .char (own_f19_m6 p1))] : List Int32), ¬ c < 0 ∧ ¬ (255 : Int32) < c := (own_allS (own_chr_19_m4 p1) (own_allS (own_chr_19_m5 p1) (own_allS (own_chr_19_m6 p1) own_all0)))
  have u38 : n0 ≤ b6 := Nat.le_trans Z0 (Nat.le_of_eq g6.symm)
  have z39 : h0.size ≤ h26.size := Nat.le_trans z23 (Nat.le_of_eq (Wr.size W26).symm)
  obtain ⟨_, _, ⟨T27, L27, k27, n27⟩, -, X27, ⟨Lc27, hQ27, l27, y27, z27⟩, st27⟩ := X26.specialBack hx (y := yM2) rfl hown (mvT hZ (WW hw 14)) (mvT hZ (WW hw 15)) (mvT hZ (WW hw 16)) (by decide) (StrChars.Road.backV (W := 1) hZ hws (kI := 4) (WW hw 11) (cs := ([(nar .char (own_f19_m4 p1)), (nar .char (own_f19_m5 p1)), (nar .char (own_f19_m6 p1))] : List Int32)) (bs := ([(nar .char (own_f19_m4 p1)), (nar .char (own_f19_m5 p1)), (nar .char (own_f19_m6 p1))] : List Int32).map (fun c => c.toInt8.toInt32)) (n := 3) u38 (Nat.le_trans Z0 z39) F28 F30 F31 V26 (f33.ext O35.2) f36 rfl rfl (by decide) (by decide) hp37 rfl (by decide) (by decide)) (g := (mkF m 107 #[SI p1, SI (((p1.toUInt32 >>> ((24 : Int32) &&& 31).toUInt32).toInt32) &&& (3 : Int32))] [VR b9, VR b6, VR b6])) rfl (by rw [hml]; rfl) (Steps.refl _) (a := b6) (argsL := [VR b9]) (rest := [VR b6]) (lenOf pd2 rfl) rfl (by show 2 * 0 + _ ≤ _; exact Nat.le_of_eq rfl) (hb hby d1_107) (fun _ _ => ⟨rfl, e26, (by decide : 2 + 1 ≤ _), (by decide : 7 + 3 ≤ _)⟩)
  dsimp only [Pt.U, Pt.locs, Pt.cells, Pt.slots] at X27 l27 y27 z27 st27 hQ27
  subst l27 y27 z27
  obtain ⟨rfl, N27q, K27, oE27, oC27, t27, kb27, -, lo27, nt27, oV27, oA27⟩ := hQ27
  have N27 := Fr.app N26 N27q
  refine own_go (fun _ k => st27.trans k) ?_
  show own_Fin p e below _ T27 (mkF m 110 #[SI p1, SI (((p1.toUInt32 >>> ((24 : Int32) &&& 31).toUInt32).toInt32) &&& (3 : Int32))] [VR b6])
  have K40 : Keep h0 T27.heap [] := (((((((Keep.refl h0 []).ext E6).ext E9).wr W15 (Or.inr (Nat.le_trans z11 (Nat.le_of_eq g9.symm)))).wr W21 (Or.inr (Nat.le_trans z11 (Nat.le_of_eq g9.symm)))).wr W26 (Or.inr (Nat.le_trans z11 (Nat.le_of_eq g9.symm)))).trans K27 (allS (Or.inr (Nat.le_of_eq g6.symm)) all0))
  obtain ⟨fs, hr, hrun, hended, hW, hsame⟩ := X27.leave (v := some (.ref b6)) (fun h => by rw [hret] at h; cases h)
  refine own_end (retOut X27 hx hret rfl (Or.inr (Or.inr (Or.inr (Or.inr ⟨rfl, rfl, rfl⟩)))) (hb hby d1_110) hr) hrun hended ⟨_, _, rfl, ?_, ⟨_, rfl⟩, hW, hsame.mono (by decide) (by decide)⟩
  show Q1_5 Z p1 p32 h0 n0 _ T27.heap _
  exact ⟨b6, t27, kb27, rfl, N27, K40, (Nat.le_of_eq g6.symm), (Nat.le_trans z39 lo27), (Ne.symm nt27), oE27, oC27, oV27, oA27⟩
def own_f8_m18 (P1_ : Int32) : Int32 := (if (own_f19_m4 P1_) = (63 : Int32) then (if (own_f19_m5 P1_) = (63 : Int32) then (if (own_f19_m6 P1_) = (63 : Int32) then (0 : Int32) else (0 : Int32)) else (if (own_f19_m6 P1_) = (63 : Int32) then (0 : Int32) else (0 : Int32))) else (if (own_f19_m5 P1_) = (63 : Int32) then (if (own_f19_m6 P1_) = (63 : Int32) then (0 : Int32) else (0 : Int32)) else (if (own_f19_m6 P1_) = (63 : Int32) then (0 : Int32) else (1 : Int32))))
theorem ef8_m18 (m : MethodId) (P1_ : Int32) : entryFrame m #[(.int P1_)] 5 = mkF m 0 #[SI P1_, SU, SU, SU, SU] [] := by first | (simp [entryFrame, mkF, argsToLocals, Value.category]; done) | rfl
def Q8_m18 (Z : State) (P1_ : Int32) (h0 : Heap) (n0 : Nat) (v : Option Value) (h : Heap) (L : List Loc) : Prop := v = some (.int (own_f8_m18 P1_)) ∧ Fr n0 L ∧ h = h0
set_option maxRecDepth 65536 in
set_option maxHeartbeats 40000000 in
theorem rm8_m18 (l : Launch) (Z : State) (a0 : Array Value) (hw : HW a0 Z) (ws : List Jvm.Cond) (P1_ : Int32) (h0 : Heap) (n0 : Nat) (Z0 : n0 ≤ h0.size) (fm1_ : ¬ ((((P1_.toUInt32 >>> ((24 : Int32) &&& 31).toUInt32).toInt32) &&& (3 : Int32)) < (1 : Int32))) (fm2_ : ¬ ((((P1_.toUInt32 >>> ((24 : Int32) &&& 31).toUInt32).toInt32) &&& (3 : Int32)) < (2 : Int32))) (fm3_ : ¬ ((((P1_.toUInt32 >>> ((24 : Int32) &&& 31).toUInt32).toInt32) &&& (3 : Int32)) < (3 : Int32))) :
    MetFree l yM7 (head1 (Jvm.Cond.code yM7 method_6_code 5 (some .boolean) :: ws) ({ frames := 1, cells := 0, slots := 0, locals := 13 } : Room)) (fun a U => a = #[(.int P1_)] ∧ Z.Warmed39 U.vm ∧ U.heap = h0) (fun _ _ _ _ _ => True) (fun _ U o U' => ∃ v L, o = .returned v ∧ Q8_m18 Z P1_ h0 n0 v U'.heap L ∧ FrameEnd U o U' L ({ frames := 1, cells := 0, slots := 0, locals := 13 } : Room).cells ({ frames := 1, cells := 0, slots := 0, locals := 13 } : Room).slots) := by
  refine own_enter (n0 := n0) (plainFor_of_name pn0) (fun m => ef8_m18 m P1_) ?_
  intro p e s m below meth c s₁ hx hby hml hown hnm hret hlk X0 e0 hZ hh N0
  show own_Fin p e below _ s₁ (mkF m 0 #[SI P1_, SU, SU, SU, SU] [])
  refine own_go (fun _ k => XS.iloadN X0.here hx rfl (hb hby d8_0) rfl k) ?_
  show own_Fin p e below _ s₁ (mkF m 1 #[SI P1_, SU, SU, SU, SU] [VI P1_])
  obtain ⟨_, T1, L1, X1, hQ1, st1⟩ := own_cS X0 hx hZ hown (WW hw 7) (WW hw 8) (WW hw 5) (WW hw 9) (rm2_1 l Z a0 hw [] P1_ h0 n0 Z0 ) e0 hml (g := (mkF m 1 #[SI P1_, SU, SU, SU, SU] [VI P1_])) pd0 (hb hby d8_1) [VI P1_] [] (W := 0)
  obtain ⟨rfl, N1q, e1⟩ := hQ1
  have N1 := Fr.app N0 N1q
  refine own_go st1 ?_
  show own_Fin p e below _ T1 (mkF m 4 #[SI P1_, SU, SU, SU, SU] [VI (((P1_.toUInt32 >>> ((24 : Int32) &&& 31).toUInt32).toInt32) &&& (3 : Int32))])
  refine own_go (fun _ k => XS.istoreN X1.here hx rfl (hb hby d8_4) rfl (l' := #[SI P1_, SI (((P1_.toUInt32 >>> ((24 : Int32) &&& 31).toUInt32).toInt32) &&& (3 : Int32)), SU, SU, SU]) rfl (XS.iloadN X1.here hx rfl (hb hby d8_5) rfl (XS.iconst X1.here hx rfl (hb hby d8_6) (XS.icmpNo X1.here hx rfl (hb hby d8_7) rfl (flt fm1_).1 (XS.iloadN X1.here hx rfl (hb hby d8_10) rfl (XS.iconst X1.here hx rfl (hb hby d8_11) k)))))) ?_
  show own_Fin p e below _ T1 (mkF m 12 #[SI P1_, SI (((P1_.toUInt32 >>> ((24 : Int32) &&& 31).toUInt32).toInt32) &&& (3 : Int32)), SU, SU, SU] [VI 0, VI P1_])
  obtain ⟨_, T2, L2, X2, hQ2, st2⟩ := own_cS X1 hx hZ hown (WW hw 97) (WW hw 98) (WW hw 5) (WW hw 99) (rm19_m4 l Z a0 hw [] P1_ h0 n0 Z0 ) e1 hml (g := (mkF m 12 #[SI P1_, SI (((P1_.toUInt32 >>> ((24 : Int32) &&& 31).toUInt32).toInt32) &&& (3 : Int32)), SU, SU, SU] [VI 0, VI P1_])) pd3 (hb hby d8_12) [VI P1_, VI 0] [] (W := 0)
  obtain ⟨rfl, N2q, e2⟩ := hQ2
  have N2 := Fr.app N1 N2q
  refine own_go st2 ?_
  show own_Fin p e below _ T2 (mkF m 15 #[SI P1_, SI (((P1_.toUInt32 >>> ((24 : Int32) &&& 31).toUInt32).toInt32) &&& (3 : Int32)), SU, SU, SU] [VI (own_f19_m4 P1_)])
  by_cases hm0 : (own_f19_m4 P1_) = (63 : Int32)
  ·
    refine own_go (fun _ k => XS.bipush X2.here hx rfl (hb hby d8_15) (XS.icmpYes X2.here hx rfl (pc0 := 17) (pc' := 24) rfl (hb hby d8_17) rfl (teq hm0).1 (by decide) (by decide) (XS.iconst X2.here hx rfl (hb hby d8_24) (XS.istoreN X2.here hx rfl (hb hby d8_25) rfl (l' := #[SI P1_, SI (((P1_.toUInt32 >>> ((24 : Int32) &&& 31).toUInt32).toInt32) &&& (3 : Int32)), SI 0, SU, SU]) rfl (XS.iloadN X2.here hx rfl (hb hby d8_26) rfl (XS.iconst X2.here hx rfl (hb hby d8_27) (XS.icmpNo X2.here hx rfl (hb hby d8_28) rfl (flt fm2_).1 (XS.iloadN X2.here hx rfl (hb hby d8_31) rfl (XS.iconst X2.here hx rfl (hb hby d8_32) k))))))))) ?_
    show own_Fin p e below _ T2 (mkF m 33 #[SI P1_, SI (((P1_.toUInt32 >>> ((24 : Int32) &&& 31).toUInt32).toInt32) &&& (3 : Int32)), SI 0, SU, SU] [VI 1, VI P1_])
    obtain ⟨_, T3, L3, X3, hQ3, st3⟩ := own_cS X2 hx hZ hown (WW hw 97) (WW hw 98) (WW hw 5) (WW hw 99) (rm19_m5 l Z a0 hw [] P1_ h0 n0 Z0 ) e2 hml (g := (mkF m 33 #[SI P1_, SI (((P1_.toUInt32 >>> ((24 : Int32) &&& 31).toUInt32).toInt32) &&& (3 : Int32)), SI 0, SU, SU] [VI 1, VI P1_])) pd3 (hb hby d8_33) [VI P1_, VI 1] [] (W := 0)
    obtain ⟨rfl, N3q, e3⟩ := hQ3
    have N3 := Fr.app N2 N3q
    refine own_go st3 ?_
    show own_Fin p e below _ T3 (mkF m 36 #[SI P1_, SI (((P1_.toUInt32 >>> ((24 : Int32) &&& 31).toUInt32).toInt32) &&& (3 : Int32)), SI 0, SU, SU] [VI (own_f19_m5 P1_)])
    by_cases hm1 : (own_f19_m5 P1_) = (63 : Int32)
    ·
      refine own_go (fun _ k => XS.bipush X3.here hx rfl (hb hby d8_36) (XS.icmpYes X3.here hx rfl (pc0 := 38) (pc' := 45) rfl (hb hby d8_38) rfl (teq hm1).1 (by decide) (by decide) (XS.iconst X3.here hx rfl (hb hby d8_45) (XS.istoreN X3.here hx rfl (hb hby d8_46) rfl (l' := #[SI P1_, SI (((P1_.toUInt32 >>> ((24 : Int32) &&& 31).toUInt32).toInt32) &&& (3 : Int32)), SI 0, SI 0, SU]) rfl (XS.iloadN X3.here hx rfl (hb hby d8_47) rfl (XS.iconst X3.here hx rfl (hb hby d8_48) (XS.icmpNo X3.here hx rfl (hb hby d8_49) rfl (flt fm3_).1 (XS.iloadN X3.here hx rfl (hb hby d8_52) rfl (XS.iconst X3.here hx rfl (hb hby d8_53) k))))))))) ?_
      show own_Fin p e below _ T3 (mkF m 54 #[SI P1_, SI (((P1_.toUInt32 >>> ((24 : Int32) &&& 31).toUInt32).toInt32) &&& (3 : Int32)), SI 0, SI 0, SU] [VI 2, VI P1_])
      obtain ⟨_, T4, L4, X4, hQ4, st4⟩ := own_cS X3 hx hZ hown (WW hw 97) (WW hw 98) (WW hw 5) (WW hw 99) (rm19_m6 l Z a0 hw [] P1_ h0 n0 Z0 ) e3 hml (g := (mkF m 54 #[SI P1_, SI (((P1_.toUInt32 >>> ((24 : Int32) &&& 31).toUInt32).toInt32) &&& (3 : Int32)), SI 0, SI 0, SU] [VI 2, VI P1_])) pd3 (hb hby d8_54) [VI P1_, VI 2] [] (W := 0)
      obtain ⟨rfl, N4q, e4⟩ := hQ4
      have N4 := Fr.app N3 N4q
      refine own_go st4 ?_
      show own_Fin p e below _ T4 (mkF m 57 #[SI P1_, SI (((P1_.toUInt32 >>> ((24 : Int32) &&& 31).toUInt32).toInt32) &&& (3 : Int32)), SI 0, SI 0, SU] [VI (own_f19_m6 P1_)])
      by_cases hm2 : (own_f19_m6 P1_) = (63 : Int32)
      ·
        refine own_go (fun _ k => XS.bipush X4.here hx rfl (hb hby d8_57) (XS.icmpYes X4.here hx rfl (pc0 := 59) (pc' := 66) rfl (hb hby d8_59) rfl (teq hm2).1 (by decide) (by decide) (XS.iconst X4.here hx rfl (hb hby d8_66) (XS.istore X4.here hx rfl (hb hby d8_67) rfl (l' := #[SI P1_, SI (((P1_.toUInt32 >>> ((24 : Int32) &&& 31).toUInt32).toInt32) &&& (3 : Int32)), SI 0, SI 0, SI 0]) rfl (XS.iloadN X4.here hx rfl (hb hby d8_69) rfl (XS.ifYes X4.here hx rfl (pc0 := 70) (pc' := 86) rfl (hb hby d8_70) rfl ((if0 _ _).trans (teq (by decide : (0 : Int32) = (0 : Int32))).1) (by decide) (by decide) (XS.iconst X4.here hx rfl (hb hby d8_86) k))))))) ?_
        show own_Fin p e below _ T4 (mkF m 87 #[SI P1_, SI (((P1_.toUInt32 >>> ((24 : Int32) &&& 31).toUInt32).toInt32) &&& (3 : Int32)), SI 0, SI 0, SI 0] [VI 0])
        obtain ⟨fs, hr, hrun, hended, hW, hsame⟩ := X4.leave (v := some (.int (0 : Int32))) (fun h => by rw [hret] at h; cases h)
        refine own_end (retN X4 hx (t := .boolean) hret (by simp) (hb hby d8_87) hr) hrun hended ⟨_, _, rfl, ?_, ⟨_, rfl⟩, hW, hsame.mono (by decide) (by decide)⟩
        show Q8_m18 Z P1_ h0 n0 _ T4.heap _
        rw [e4]
        exact ⟨by simp only [own_f8_m18, hm0, hm1, hm2, ↓reduceIte], N4, rfl⟩
      ·
        refine own_go (fun _ k => XS.bipush X4.here hx rfl (hb hby d8_57) (XS.icmpNo X4.here hx rfl (hb hby d8_59) rfl (feq hm2).1 (XS.iconst X4.here hx rfl (hb hby d8_62) (XS.goto X4.here hx rfl (pc0 := 63) (pc' := 67) rfl (hb hby d8_63) (by decide) (by decide) (XS.istore X4.here hx rfl (hb hby d8_67) rfl (l' := #[SI P1_, SI (((P1_.toUInt32 >>> ((24 : Int32) &&& 31).toUInt32).toInt32) &&& (3 : Int32)), SI 0, SI 0, SI 1]) rfl (XS.iloadN X4.here hx rfl (hb hby d8_69) rfl (XS.ifYes X4.here hx rfl (pc0 := 70) (pc' := 86) rfl (hb hby d8_70) rfl ((if0 _ _).trans (teq (by decide : (0 : Int32) = (0 : Int32))).1) (by decide) (by decide) (XS.iconst X4.here hx rfl (hb hby d8_86) k)))))))) ?_
        show own_Fin p e below _ T4 (mkF m 87 #[SI P1_, SI (((P1_.toUInt32 >>> ((24 : Int32) &&& 31).toUInt32).toInt32) &&& (3 : Int32)), SI 0, SI 0, SI 1] [VI 0])
        obtain ⟨fs, hr, hrun, hended, hW, hsame⟩ := X4.leave (v := some (.int (0 : Int32))) (fun h => by rw [hret] at h; cases h)
        refine own_end (retN X4 hx (t := .boolean) hret (by simp) (hb hby d8_87) hr) hrun hended ⟨_, _, rfl, ?_, ⟨_, rfl⟩, hW, hsame.mono (by decide) (by decide)⟩
        show Q8_m18 Z P1_ h0 n0 _ T4.heap _
        rw [e4]
        exact ⟨by simp only [own_f8_m18, hm0, hm1, hm2, ↓reduceIte], N4, rfl⟩
    ·
      refine own_go (fun _ k => XS.bipush X3.here hx rfl (hb hby d8_36) (XS.icmpNo X3.here hx rfl (hb hby d8_38) rfl (feq hm1).1 (XS.iconst X3.here hx rfl (hb hby d8_41) (XS.goto X3.here hx rfl (pc0 := 42) (pc' := 46) rfl (hb hby d8_42) (by decide) (by decide) (XS.istoreN X3.here hx rfl (hb hby d8_46) rfl (l' := #[SI P1_, SI (((P1_.toUInt32 >>> ((24 : Int32) &&& 31).toUInt32).toInt32) &&& (3 : Int32)), SI 0, SI 1, SU]) rfl (XS.iloadN X3.here hx rfl (hb hby d8_47) rfl (XS.iconst X3.here hx rfl (hb hby d8_48) (XS.icmpNo X3.here hx rfl (hb hby d8_49) rfl (flt fm3_).1 (XS.iloadN X3.here hx rfl (hb hby d8_52) rfl (XS.iconst X3.here hx rfl (hb hby d8_53) k)))))))))) ?_
      show own_Fin p e below _ T3 (mkF m 54 #[SI P1_, SI (((P1_.toUInt32 >>> ((24 : Int32) &&& 31).toUInt32).toInt32) &&& (3 : Int32)), SI 0, SI 1, SU] [VI 2, VI P1_])
      obtain ⟨_, T4, L4, X4, hQ4, st4⟩ := own_cS X3 hx hZ hown (WW hw 97) (WW hw 98) (WW hw 5) (WW hw 99) (rm19_m6 l Z a0 hw [] P1_ h0 n0 Z0 ) e3 hml (g := (mkF m 54 #[SI P1_, SI (((P1_.toUInt32 >>> ((24 : Int32) &&& 31).toUInt32).toInt32) &&& (3 : Int32)), SI 0, SI 1, SU] [VI 2, VI P1_])) pd3 (hb hby d8_54) [VI P1_, VI 2] [] (W := 0)
      obtain ⟨rfl, N4q, e4⟩ := hQ4
      have N4 := Fr.app N3 N4q
      refine own_go st4 ?_
      show own_Fin p e below _ T4 (mkF m 57 #[SI P1_, SI (((P1_.toUInt32 >>> ((24 : Int32) &&& 31).toUInt32).toInt32) &&& (3 : Int32)), SI 0, SI 1, SU] [VI (own_f19_m6 P1_)])
      by_cases hm2 : (own_f19_m6 P1_) = (63 : Int32)
      ·
        refine own_go (fun _ k => XS.bipush X4.here hx rfl (hb hby d8_57) (XS.icmpYes X4.here hx rfl (pc0 := 59) (pc' := 66) rfl (hb hby d8_59) rfl (teq hm2).1 (by decide) (by decide) (XS.iconst X4.here hx rfl (hb hby d8_66) (XS.istore X4.here hx rfl (hb hby d8_67) rfl (l' := #[SI P1_, SI (((P1_.toUInt32 >>> ((24 : Int32) &&& 31).toUInt32).toInt32) &&& (3 : Int32)), SI 0, SI 1, SI 0]) rfl (XS.iloadN X4.here hx rfl (hb hby d8_69) rfl (XS.ifYes X4.here hx rfl (pc0 := 70) (pc' := 86) rfl (hb hby d8_70) rfl ((if0 _ _).trans (teq (by decide : (0 : Int32) = (0 : Int32))).1) (by decide) (by decide) (XS.iconst X4.here hx rfl (hb hby d8_86) k))))))) ?_
        show own_Fin p e below _ T4 (mkF m 87 #[SI P1_, SI (((P1_.toUInt32 >>> ((24 : Int32) &&& 31).toUInt32).toInt32) &&& (3 : Int32)), SI 0, SI 1, SI 0] [VI 0])
        obtain ⟨fs, hr, hrun, hended, hW, hsame⟩ := X4.leave (v := some (.int (0 : Int32))) (fun h => by rw [hret] at h; cases h)
        refine own_end (retN X4 hx (t := .boolean) hret (by simp) (hb hby d8_87) hr) hrun hended ⟨_, _, rfl, ?_, ⟨_, rfl⟩, hW, hsame.mono (by decide) (by decide)⟩
        show Q8_m18 Z P1_ h0 n0 _ T4.heap _
        rw [e4]
        exact ⟨by simp only [own_f8_m18, hm0, hm1, hm2, ↓reduceIte], N4, rfl⟩
      ·
        refine own_go (fun _ k => XS.bipush X4.here hx rfl (hb hby d8_57) (XS.icmpNo X4.here hx rfl (hb hby d8_59) rfl (feq hm2).1 (XS.iconst X4.here hx rfl (hb hby d8_62) (XS.goto X4.here hx rfl (pc0 := 63) (pc' := 67) rfl (hb hby d8_63) (by decide) (by decide) (XS.istore X4.here hx rfl (hb hby d8_67) rfl (l' := #[SI P1_, SI (((P1_.toUInt32 >>> ((24 : Int32) &&& 31).toUInt32).toInt32) &&& (3 : Int32)), SI 0, SI 1, SI 1]) rfl (XS.iloadN X4.here hx rfl (hb hby d8_69) rfl (XS.ifYes X4.here hx rfl (pc0 := 70) (pc' := 86) rfl (hb hby d8_70) rfl ((if0 _ _).trans (teq (by decide : (0 : Int32) = (0 : Int32))).1) (by decide) (by decide) (XS.iconst X4.here hx rfl (hb hby d8_86) k)))))))) ?_
        show own_Fin p e below _ T4 (mkF m 87 #[SI P1_, SI (((P1_.toUInt32 >>> ((24 : Int32) &&& 31).toUInt32).toInt32) &&& (3 : Int32)), SI 0, SI 1, SI 1] [VI 0])
        obtain ⟨fs, hr, hrun, hended, hW, hsame⟩ := X4.leave (v := some (.int (0 : Int32))) (fun h => by rw [hret] at h; cases h)
        refine own_end (retN X4 hx (t := .boolean) hret (by simp) (hb hby d8_87) hr) hrun hended ⟨_, _, rfl, ?_, ⟨_, rfl⟩, hW, hsame.mono (by decide) (by decide)⟩
        show Q8_m18 Z P1_ h0 n0 _ T4.heap _
        rw [e4]
        exact ⟨by simp only [own_f8_m18, hm0, hm1, hm2, ↓reduceIte], N4, rfl⟩
  ·
    refine own_go (fun _ k => XS.bipush X2.here hx rfl (hb hby d8_15) (XS.icmpNo X2.here hx rfl (hb hby d8_17) rfl (feq hm0).1 (XS.iconst X2.here hx rfl (hb hby d8_20) (XS.goto X2.here hx rfl (pc0 := 21) (pc' := 25) rfl (hb hby d8_21) (by decide) (by decide) (XS.istoreN X2.here hx rfl (hb hby d8_25) rfl (l' := #[SI P1_, SI (((P1_.toUInt32 >>> ((24 : Int32) &&& 31).toUInt32).toInt32) &&& (3 : Int32)), SI 1, SU, SU]) rfl (XS.iloadN X2.here hx rfl (hb hby d8_26) rfl (XS.iconst X2.here hx rfl (hb hby d8_27) (XS.icmpNo X2.here hx rfl (hb hby d8_28) rfl (flt fm2_).1 (XS.iloadN X2.here hx rfl (hb hby d8_31) rfl (XS.iconst X2.here hx rfl (hb hby d8_32) k)))))))))) ?_
    show own_Fin p e below _ T2 (mkF m 33 #[SI P1_, SI (((P1_.toUInt32 >>> ((24 : Int32) &&& 31).toUInt32).toInt32) &&& (3 : Int32)), SI 1, SU, SU] [VI 1, VI P1_])
    obtain ⟨_, T3, L3, X3, hQ3, st3⟩ := own_cS X2 hx hZ hown (WW hw 97) (WW hw 98) (WW hw 5) (WW hw 99) (rm19_m5 l Z a0 hw [] P1_ h0 n0 Z0 ) e2 hml (g := (mkF m 33 #[SI P1_, SI (((P1_.toUInt32 >>> ((24 : Int32) &&& 31).toUInt32).toInt32) &&& (3 : Int32)), SI 1, SU, SU] [VI 1, VI P1_])) pd3 (hb hby d8_33) [VI P1_, VI 1] [] (W := 0)
    obtain ⟨rfl, N3q, e3⟩ := hQ3
    have N3 := Fr.app N2 N3q
    refine own_go st3 ?_
    show own_Fin p e below _ T3 (mkF m 36 #[SI P1_, SI (((P1_.toUInt32 >>> ((24 : Int32) &&& 31).toUInt32).toInt32) &&& (3 : Int32)), SI 1, SU, SU] [VI (own_f19_m5 P1_)])
    by_cases hm1 : (own_f19_m5 P1_) = (63 : Int32)
    ·
      refine own_go (fun _ k => XS.bipush X3.here hx rfl (hb hby d8_36) (XS.icmpYes X3.here hx rfl (pc0 := 38) (pc' := 45) rfl (hb hby d8_38) rfl (teq hm1).1 (by decide) (by decide) (XS.iconst X3.here hx rfl (hb hby d8_45) (XS.istoreN X3.here hx rfl (hb hby d8_46) rfl (l' := #[SI P1_, SI (((P1_.toUInt32 >>> ((24 : Int32) &&& 31).toUInt32).toInt32) &&& (3 : Int32)), SI 1, SI 0, SU]) rfl (XS.iloadN X3.here hx rfl (hb hby d8_47) rfl (XS.iconst X3.here hx rfl (hb hby d8_48) (XS.icmpNo X3.here hx rfl (hb hby d8_49) rfl (flt fm3_).1 (XS.iloadN X3.here hx rfl (hb hby d8_52) rfl (XS.iconst X3.here hx rfl (hb hby d8_53) k))))))))) ?_
      show own_Fin p e below _ T3 (mkF m 54 #[SI P1_, SI (((P1_.toUInt32 >>> ((24 : Int32) &&& 31).toUInt32).toInt32) &&& (3 : Int32)), SI 1, SI 0, SU] [VI 2, VI P1_])
      obtain ⟨_, T4, L4, X4, hQ4, st4⟩ := own_cS X3 hx hZ hown (WW hw 97) (WW hw 98) (WW hw 5) (WW hw 99) (rm19_m6 l Z a0 hw [] P1_ h0 n0 Z0 ) e3 hml (g := (mkF m 54 #[SI P1_, SI (((P1_.toUInt32 >>> ((24 : Int32) &&& 31).toUInt32).toInt32) &&& (3 : Int32)), SI 1, SI 0, SU] [VI 2, VI P1_])) pd3 (hb hby d8_54) [VI P1_, VI 2] [] (W := 0)
      obtain ⟨rfl, N4q, e4⟩ := hQ4
      have N4 := Fr.app N3 N4q
      refine own_go st4 ?_
      show own_Fin p e below _ T4 (mkF m 57 #[SI P1_, SI (((P1_.toUInt32 >>> ((24 : Int32) &&& 31).toUInt32).toInt32) &&& (3 : Int32)), SI 1, SI 0, SU] [VI (own_f19_m6 P1_)])
      by_cases hm2 : (own_f19_m6 P1_) = (63 : Int32)
      ·
        refine own_go (fun _ k => XS.bipush X4.here hx rfl (hb hby d8_57) (XS.icmpYes X4.here hx rfl (pc0 := 59) (pc' := 66) rfl (hb hby d8_59) rfl (teq hm2).1 (by decide) (by decide) (XS.iconst X4.here hx rfl (hb hby d8_66) (XS.istore X4.here hx rfl (hb hby d8_67) rfl (l' := #[SI P1_, SI (((P1_.toUInt32 >>> ((24 : Int32) &&& 31).toUInt32).toInt32) &&& (3 : Int32)), SI 1, SI 0, SI 0]) rfl (XS.iloadN X4.here hx rfl (hb hby d8_69) rfl (XS.ifNo X4.here hx rfl (hb hby d8_70) rfl ((if0 _ _).trans (feq (by decide : ¬ ((1 : Int32) = (0 : Int32)))).1) (XS.iloadN X4.here hx rfl (hb hby d8_73) rfl (XS.ifYes X4.here hx rfl (pc0 := 74) (pc' := 86) rfl (hb hby d8_74) rfl ((if0 _ _).trans (teq (by decide : (0 : Int32) = (0 : Int32))).1) (by decide) (by decide) (XS.iconst X4.here hx rfl (hb hby d8_86) k))))))))) ?_
        show own_Fin p e below _ T4 (mkF m 87 #[SI P1_, SI (((P1_.toUInt32 >>> ((24 : Int32) &&& 31).toUInt32).toInt32) &&& (3 : Int32)), SI 1, SI 0, SI 0] [VI 0])
        obtain ⟨fs, hr, hrun, hended, hW, hsame⟩ := X4.leave (v := some (.int (0 : Int32))) (fun h => by rw [hret] at h; cases h)
        refine own_end (retN X4 hx (t := .boolean) hret (by simp) (hb hby d8_87) hr) hrun hended ⟨_, _, rfl, ?_, ⟨_, rfl⟩, hW, hsame.mono (by decide) (by decide)⟩
        show Q8_m18 Z P1_ h0 n0 _ T4.heap _
        rw [e4]
        exact ⟨by simp only [own_f8_m18, hm0, hm1, hm2, ↓reduceIte], N4, rfl⟩
      ·
        refine own_go (fun _ k => XS.bipush X4.here hx rfl (hb hby d8_57) (XS.icmpNo X4.here hx rfl (hb hby d8_59) rfl (feq hm2).1 (XS.iconst X4.here hx rfl (hb hby d8_62) (XS.goto X4.here hx rfl (pc0 := 63) (pc' := 67) rfl (hb hby d8_63) (by decide) (by decide) (XS.istore X4.here hx rfl (hb hby d8_67) rfl (l' := #[SI P1_, SI (((P1_.toUInt32 >>> ((24 : Int32) &&& 31).toUInt32).toInt32) &&& (3 : Int32)), SI 1, SI 0, SI 1]) rfl (XS.iloadN X4.here hx rfl (hb hby d8_69) rfl (XS.ifNo X4.here hx rfl (hb hby d8_70) rfl ((if0 _ _).trans (feq (by decide : ¬ ((1 : Int32) = (0 : Int32)))).1) (XS.iloadN X4.here hx rfl (hb hby d8_73) rfl (XS.ifYes X4.here hx rfl (pc0 := 74) (pc' := 86) rfl (hb hby d8_74) rfl ((if0 _ _).trans (teq (by decide : (0 : Int32) = (0 : Int32))).1) (by decide) (by decide) (XS.iconst X4.here hx rfl (hb hby d8_86) k)))))))))) ?_
        show own_Fin p e below _ T4 (mkF m 87 #[SI P1_, SI (((P1_.toUInt32 >>> ((24 : Int32) &&& 31).toUInt32).toInt32) &&& (3 : Int32)), SI 1, SI 0, SI 1] [VI 0])
        obtain ⟨fs, hr, hrun, hended, hW, hsame⟩ := X4.leave (v := some (.int (0 : Int32))) (fun h => by rw [hret] at h; cases h)
        refine own_end (retN X4 hx (t := .boolean) hret (by simp) (hb hby d8_87) hr) hrun hended ⟨_, _, rfl, ?_, ⟨_, rfl⟩, hW, hsame.mono (by decide) (by decide)⟩
        show Q8_m18 Z P1_ h0 n0 _ T4.heap _
        rw [e4]
        exact ⟨by simp only [own_f8_m18, hm0, hm1, hm2, ↓reduceIte], N4, rfl⟩
    ·
      refine own_go (fun _ k => XS.bipush X3.here hx rfl (hb hby d8_36) (XS.icmpNo X3.here hx rfl (hb hby d8_38) rfl (feq hm1).1 (XS.iconst X3.here hx rfl (hb hby d8_41) (XS.goto X3.here hx rfl (pc0 := 42) (pc' := 46) rfl (hb hby d8_42) (by decide) (by decide) (XS.istoreN X3.here hx rfl (hb hby d8_46) rfl (l' := #[SI P1_, SI (((P1_.toUInt32 >>> ((24 : Int32) &&& 31).toUInt32).toInt32) &&& (3 : Int32)), SI 1, SI 1, SU]) rfl (XS.iloadN X3.here hx rfl (hb hby d8_47) rfl (XS.iconst X3.here hx rfl (hb hby d8_48) (XS.icmpNo X3.here hx rfl (hb hby d8_49) rfl (flt fm3_).1 (XS.iloadN X3.here hx rfl (hb hby d8_52) rfl (XS.iconst X3.here hx rfl (hb hby d8_53) k)))))))))) ?_
      show own_Fin p e below _ T3 (mkF m 54 #[SI P1_, SI (((P1_.toUInt32 >>> ((24 : Int32) &&& 31).toUInt32).toInt32) &&& (3 : Int32)), SI 1, SI 1, SU] [VI 2, VI P1_])
      obtain ⟨_, T4, L4, X4, hQ4, st4⟩ := own_cS X3 hx hZ hown (WW hw 97) (WW hw 98) (WW hw 5) (WW hw 99) (rm19_m6 l Z a0 hw [] P1_ h0 n0 Z0 ) e3 hml (g := (mkF m 54 #[SI P1_, SI (((P1_.toUInt32 >>> ((24 : Int32) &&& 31).toUInt32).toInt32) &&& (3 : Int32)), SI 1, SI 1, SU] [VI 2, VI P1_])) pd3 (hb hby d8_54) [VI P1_, VI 2] [] (W := 0)
      obtain ⟨rfl, N4q, e4⟩ := hQ4
      have N4 := Fr.app N3 N4q
      refine own_go st4 ?_
      show own_Fin p e below _ T4 (mkF m 57 #[SI P1_, SI (((P1_.toUInt32 >>> ((24 : Int32) &&& 31).toUInt32).toInt32) &&& (3 : Int32)), SI 1, SI 1, SU] [VI (own_f19_m6 P1_)])
      by_cases hm2 : (own_f19_m6 P1_) = (63 : Int32)
      ·
        refine own_go (fun _ k => XS.bipush X4.here hx rfl (hb hby d8_57) (XS.icmpYes X4.here hx rfl (pc0 := 59) (pc' := 66) rfl (hb hby d8_59) rfl (teq hm2).1 (by decide) (by decide) (XS.iconst X4.here hx rfl (hb hby d8_66) (XS.istore X4.here hx rfl (hb hby d8_67) rfl (l' := #[SI P1_, SI (((P1_.toUInt32 >>> ((24 : Int32) &&& 31).toUInt32).toInt32) &&& (3 : Int32)), SI 1, SI 1, SI 0]) rfl (XS.iloadN X4.here hx rfl (hb hby d8_69) rfl (XS.ifNo X4.here hx rfl (hb hby d8_70) rfl ((if0 _ _).trans (feq (by decide : ¬ ((1 : Int32) = (0 : Int32)))).1) (XS.iloadN X4.here hx rfl (hb hby d8_73) rfl (XS.ifNo X4.here hx rfl (hb hby d8_74) rfl ((if0 _ _).trans (feq (by decide : ¬ ((1 : Int32) = (0 : Int32)))).1) (XS.iload X4.here hx rfl (hb hby d8_77) rfl (XS.ifYes X4.here hx rfl (pc0 := 79) (pc' := 86) rfl (hb hby d8_79) rfl ((if0 _ _).trans (teq (by decide : (0 : Int32) = (0 : Int32))).1) (by decide) (by decide) k)))))))))) ?_
        show own_Fin p e below _ T4 (mkF m 86 #[SI P1_, SI (((P1_.toUInt32 >>> ((24 : Int32) &&& 31).toUInt32).toInt32) &&& (3 : Int32)), SI 1, SI 1, SI 0] [])
        refine own_go (fun _ k => XS.iconst X4.here hx rfl (hb hby d8_86) k) ?_
        show own_Fin p e below _ T4 (mkF m 87 #[SI P1_, SI (((P1_.toUInt32 >>> ((24 : Int32) &&& 31).toUInt32).toInt32) &&& (3 : Int32)), SI 1, SI 1, SI 0] [VI 0])
        obtain ⟨fs, hr, hrun, hended, hW, hsame⟩ := X4.leave (v := some (.int (0 : Int32))) (fun h => by rw [hret] at h; cases h)
        refine own_end (retN X4 hx (t := .boolean) hret (by simp) (hb hby d8_87) hr) hrun hended ⟨_, _, rfl, ?_, ⟨_, rfl⟩, hW, hsame.mono (by decide) (by decide)⟩
        show Q8_m18 Z P1_ h0 n0 _ T4.heap _
        rw [e4]
        exact ⟨by simp only [own_f8_m18, hm0, hm1, hm2, ↓reduceIte], N4, rfl⟩
      ·
        refine own_go (fun _ k => XS.bipush X4.here hx rfl (hb hby d8_57) (XS.icmpNo X4.here hx rfl (hb hby d8_59) rfl (feq hm2).1 (XS.iconst X4.here hx rfl (hb hby d8_62) (XS.goto X4.here hx rfl (pc0 := 63) (pc' := 67) rfl (hb hby d8_63) (by decide) (by decide) (XS.istore X4.here hx rfl (hb hby d8_67) rfl (l' := #[SI P1_, SI (((P1_.toUInt32 >>> ((24 : Int32) &&& 31).toUInt32).toInt32) &&& (3 : Int32)), SI 1, SI 1, SI 1]) rfl (XS.iloadN X4.here hx rfl (hb hby d8_69) rfl (XS.ifNo X4.here hx rfl (hb hby d8_70) rfl ((if0 _ _).trans (feq (by decide : ¬ ((1 : Int32) = (0 : Int32)))).1) (XS.iloadN X4.here hx rfl (hb hby d8_73) rfl (XS.ifNo X4.here hx rfl (hb hby d8_74) rfl ((if0 _ _).trans (feq (by decide : ¬ ((1 : Int32) = (0 : Int32)))).1) (XS.iload X4.here hx rfl (hb hby d8_77) rfl k)))))))))) ?_
        show own_Fin p e below _ T4 (mkF m 79 #[SI P1_, SI (((P1_.toUInt32 >>> ((24 : Int32) &&& 31).toUInt32).toInt32) &&& (3 : Int32)), SI 1, SI 1, SI 1] [VI 1])
        refine own_go (fun _ k => XS.ifNo X4.here hx rfl (hb hby d8_79) rfl ((if0 _ _).trans (feq (by decide : ¬ ((1 : Int32) = (0 : Int32)))).1) (XS.iconst X4.here hx rfl (hb hby d8_82) (XS.goto X4.here hx rfl (pc0 := 83) (pc' := 87) rfl (hb hby d8_83) (by decide) (by decide) k))) ?_
        show own_Fin p e below _ T4 (mkF m 87 #[SI P1_, SI (((P1_.toUInt32 >>> ((24 : Int32) &&& 31).toUInt32).toInt32) &&& (3 : Int32)), SI 1, SI 1, SI 1] [VI 1])
        obtain ⟨fs, hr, hrun, hended, hW, hsame⟩ := X4.leave (v := some (.int (1 : Int32))) (fun h => by rw [hret] at h; cases h)
        refine own_end (retN X4 hx (t := .boolean) hret (by simp) (hb hby d8_87) hr) hrun hended ⟨_, _, rfl, ?_, ⟨_, rfl⟩, hW, hsame.mono (by decide) (by decide)⟩
        show Q8_m18 Z P1_ h0 n0 _ T4.heap _
        rw [e4]
        exact ⟨by simp only [own_f8_m18, hm0, hm1, hm2, ↓reduceIte], N4, rfl⟩
theorem ef13_4 (m : MethodId) (a1 : Addr) : entryFrame m #[(.ref a1)] 1 = mkF m 0 #[SR a1] [] := by first | (simp [entryFrame, mkF, argsToLocals, Value.category]; done) | rfl
def Q13_4 (Z : State) (a1 : Addr) (a2 : Addr) (k5 : ClassId) (p6 : Int32) (p7 : Int32) (p8 : Int32) (p12 : Int32) (h0 : Heap) (n0 : Nat) (v : Option Value) (h : Heap) (L : List Loc) : Prop := v = some (.int (3 : Int32)) ∧ Fr n0 L ∧ h = h0
set_option maxRecDepth 65536 in
set_option maxHeartbeats 40000000 in
theorem rm13_4 (l : Launch) (Z : State) (a0 : Array Value) (hw : HW a0 Z) (ws : List Jvm.Cond) (a1 : Addr) (a2 : Addr) (k5 : ClassId) (p6 : Int32) (p7 : Int32) (p8 : Int32) (p12 : Int32) (h0 : Heap) (n0 : Nat) (Z0 : n0 ≤ h0.size) (f3 : Fld Z h0 a1 cC3 "value" "[B" (VR a2)) (f9 : Arv Z h0 a2 k5 .byte 3 [VI p6, VI p7, VI p8] (VI 0)) (f11 : Exa Z h0 a1 cC3) (f13 : Sta Z Z.heap "java/lang/String" "COMPACT_STRINGS" "Z" (.int p12)) (f14 : Old Z n0 h0) (f15 : ¬ (p12 = (0 : Int32))) (f16 : Fld Z h0 a1 cC3 "coder" "B" (VI 0)) :
    MetFree l yM10 (head1 (Jvm.Cond.code yM10 jdk_42_method_54_code 1 (some .int) :: ws) ({ frames := 1, cells := 0, slots := 0, locals := 13 } : Room)) (fun a U => a = #[(.ref a1)] ∧ Z.Warmed39 U.vm ∧ U.heap = h0) (fun _ _ _ _ _ => True) (fun _ U o U' => ∃ v L, o = .returned v ∧ Q13_4 Z a1 a2 k5 p6 p7 p8 p12 h0 n0 v U'.heap L ∧ FrameEnd U o U' L ({ frames := 1, cells := 0, slots := 0, locals := 13 } : Room).cells ({ frames := 1, cells := 0, slots := 0, locals := 13 } : Room).slots) := by
  refine own_enter (n0 := n0) (plainFor_of_name pn3) (fun m => ef13_4 m a1) ?_
  intro p e s m below meth c s₁ hx hby hml hown hnm hret hlk X0 e0 hZ hh N0
  show own_Fin p e below _ s₁ (mkF m 0 #[SR a1] [])
  refine own_go (fun _ k => XS.aloadN X0.here hx rfl (hb hby d13_0) rfl rfl k) ?_
  show own_Fin p e below _ s₁ (mkF m 1 #[SR a1] [VR a1])
  obtain ⟨T4, X4, e4, st4⟩ := getF X0 hx hZ hown (host := "") (Or.inl (WW hw 30)) Via.refl e0 f3 (g := (mkF m 1 #[SR a1] [VR a1])) rfl rfl (hb hby d13_1)
  refine own_go st4 ?_
  show own_Fin p e below _ T4 (mkF m 4 #[SR a1] [VR a2])
  obtain ⟨cl10, Ar10, q10, Sz10, Nn10, Hs10, Gg10⟩ := id f9
  refine own_go (fun _ k => X4.arraylength hx (by rw [e4]; exact Ar10.1) (State.isArrayOf_alike hZ.alike Ar10.2.1) (g := (mkF m 4 #[SR a1] [VR a2])) rfl rfl (hb hby d13_4) _ k) ?_
  rw [len_of Sz10 Nn10]
  show own_Fin p e below _ T4 (mkF m 5 #[SR a1] [VI 3])
  refine own_go (fun _ k => XS.aloadN X4.here hx rfl (hb hby d13_5) rfl rfl k) ?_
  show own_Fin p e below _ T4 (mkF m 6 #[SR a1] [VR a1, VI 3])
  obtain ⟨_, T17, L17, X17, hQ17, st17⟩ := own_cV X4 hx hZ hown (WW hw 78) (WW hw 79) (notFace_of_selects (args := #[]) (mvT hZ (WW hw 81))) (WW hw 81) (WW hw 80) (WW hw 12) (WW hw 82) (rm14_1 l Z a0 hw [] a1 p12 h0 n0 Z0 f13 f14 f15 f16) e4 f11 hml (g := (mkF m 6 #[SR a1] [VR a1, VI 3])) pd9 (hb hby d13_6) [] [VI 3] (W := 1)
  obtain ⟨rfl, N17q, e17⟩ := hQ17
  have N17 := Fr.app N0 N17q
  refine own_go st17 ?_
  show own_Fin p e below _ T17 (mkF m 9 #[SR a1] [VI 0, VI 3])
  refine own_go (fun _ k => XS.ishr X17.here hx rfl (hb hby d13_9) rfl k) ?_
  show own_Fin p e below _ T17 (mkF m 10 #[SR a1] [VI 3])
  obtain ⟨fs, hr, hrun, hended, hW, hsame⟩ := X17.leave (v := some (.int (3 : Int32))) (fun h => by rw [hret] at h; cases h)
  refine own_end (retOut X17 hx hret rfl (Or.inl ⟨rfl, Or.inl rfl, _, rfl⟩) (hb hby d13_10) hr) hrun hended ⟨_, _, rfl, ?_, ⟨_, rfl⟩, hW, hsame.mono (by decide) (by decide)⟩
  show Q13_4 Z a1 a2 k5 p6 p7 p8 p12 h0 n0 _ T17.heap _
  rw [e17]
  exact ⟨rfl, N17, rfl⟩
def own_f23_m22 (P2_ : Int32) (P4_ : Int32) (P5_ : Int32) (P6_ : Int32) : Int32 := (if P4_ = (P2_.toInt8.toInt32) then (0 : Int32) else (if P5_ = (P2_.toInt8.toInt32) then (1 : Int32) else (if P6_ = (P2_.toInt8.toInt32) then (2 : Int32) else (-1 : Int32))))
theorem ef23_m22 (m : MethodId) (A1_ : Addr) (P2_ : Int32) : entryFrame m #[(.ref A1_), (.int P2_), (.int (0 : Int32)), (.int (3 : Int32))] 6 = mkF m 0 #[SR A1_, SI P2_, SI 0, SI 3, SU, SU] [] := by first | (simp [entryFrame, mkF, argsToLocals, Value.category]; done) | rfl
def Q23_m22 (Z : State) (A1_ : Addr) (P2_ : Int32) (KK3_ : ClassId) (P4_ : Int32) (P5_ : Int32) (P6_ : Int32) (h0 : Heap) (n0 : Nat) (v : Option Value) (h : Heap) (L : List Loc) : Prop := v = some (.int (own_f23_m22 P2_ P4_ P5_ P6_)) ∧ Fr n0 L ∧ h = h0
set_option maxRecDepth 65536 in
set_option maxHeartbeats 40000000 in
theorem rm23_m22 (l : Launch) (Z : State) (a0 : Array Value) (hw : HW a0 Z) (ws : List Jvm.Cond) (A1_ : Addr) (P2_ : Int32) (KK3_ : ClassId) (P4_ : Int32) (P5_ : Int32) (P6_ : Int32) (h0 : Heap) (n0 : Nat) (Z0 : n0 ≤ h0.size) (fm1_ : Arv Z h0 A1_ KK3_ .byte 3 [VI P4_, VI P5_, VI P6_] (VI 0)) :
    MetFree l yM18 (head1 (Jvm.Cond.code yM18 jdk_43_method_23_code 6 (some .int) :: ws) ({ frames := 0, cells := 0, slots := 0, locals := 0 } : Room)) (fun a U => a = #[(.ref A1_), (.int P2_), (.int (0 : Int32)), (.int (3 : Int32))] ∧ Z.Warmed39 U.vm ∧ U.heap = h0) (fun _ _ _ _ _ => True) (fun _ U o U' => ∃ v L, o = .returned v ∧ Q23_m22 Z A1_ P2_ KK3_ P4_ P5_ P6_ h0 n0 v U'.heap L ∧ FrameEnd U o U' L ({ frames := 0, cells := 0, slots := 0, locals := 0 } : Room).cells ({ frames := 0, cells := 0, slots := 0, locals := 0 } : Room).slots) := by
  refine own_enter (n0 := n0) (plainFor_of_name pn15) (fun m => ef23_m22 m A1_ P2_) ?_
  intro p e s m below meth c s₁ hx hby hml hown hnm hret hlk X0 e0 hZ hh N0
  show own_Fin p e below _ s₁ (mkF m 0 #[SR A1_, SI P2_, SI 0, SI 3, SU, SU] [])
  refine own_go (fun _ k => XS.iloadN X0.here hx rfl (hb hby d23_0) rfl (XS.i2b X0.here hx rfl (hb hby d23_1) rfl (XS.istore X0.here hx rfl (hb hby d23_2) rfl (l' := #[SR A1_, SI P2_, SI 0, SI 3, SI (P2_.toInt8.toInt32), SU]) rfl (XS.iloadN X0.here hx rfl (hb hby d23_4) rfl (XS.istore X0.here hx rfl (hb hby d23_5) rfl (l' := #[SR A1_, SI P2_, SI 0, SI 3, SI (P2_.toInt8.toInt32), SI 0]) rfl (XS.iload X0.here hx rfl (hb hby d23_7) rfl (XS.iloadN X0.here hx rfl (hb hby d23_9) rfl (XS.icmpNo X0.here hx rfl (hb hby d23_10) rfl (tlt (by decide : (0 : Int32) < (3 : Int32))).2.1 (XS.aloadN X0.here hx rfl (hb hby d23_13) rfl rfl (XS.iload X0.here hx rfl (hb hby d23_14) rfl k)))))))))) ?_
  show own_Fin p e below _ s₁ (mkF m 16 #[SR A1_, SI P2_, SI 0, SI 3, SI (P2_.toInt8.toInt32), SI 0] [VI 0, VR A1_])
  obtain ⟨cl1, Ar1, q1, Sz1, Nn1, Hs1, Gg1⟩ := id fm1_
  have i2 : ¬ ((0 : Int32) < 0 ∨ cl1.slots.size ≤ ((0 : Int32)).toNatClampNeg) := inb_of Sz1 ⟨(by decide : ¬ ((0 : Int32) < (0 : Int32))), (by decide : (0 : Int32) < (3 : Int32))⟩
  refine own_go (fun _ k => X0.baloadBytes hx (j := (0 : Int32)) (v := (.int P4_)) (by rw [e0]; exact Ar1.1) (State.isArrayOf_alike hZ.alike Ar1.2.1) Ar1.2.2 i2 (Hs1.at i2 rfl) (g := (mkF m 16 #[SR A1_, SI P2_, SI 0, SI 3, SI (P2_.toInt8.toInt32), SI 0] [VI 0, VR A1_])) rfl rfl (hb hby d23_16) _ k) ?_
  show own_Fin p e below _ s₁ (mkF m 17 #[SR A1_, SI P2_, SI 0, SI 3, SI (P2_.toInt8.toInt32), SI 0] [VI P4_])
  by_cases hm0 : P4_ = (P2_.toInt8.toInt32)
  ·
    refine own_go (fun _ k => XS.iload X0.here hx rfl (hb hby d23_17) rfl (XS.icmpNo X0.here hx rfl (hb hby d23_19) rfl (teq hm0).2 (XS.iload X0.here hx rfl (hb hby d23_22) rfl k))) ?_
    show own_Fin p e below _ s₁ (mkF m 24 #[SR A1_, SI P2_, SI 0, SI 3, SI (P2_.toInt8.toInt32), SI 0] [VI 0])
    obtain ⟨fs, hr, hrun, hended, hW, hsame⟩ := X0.leave (v := some (.int (0 : Int32))) (fun h => by rw [hret] at h; cases h)
    refine own_end (retOut X0 hx hret rfl (Or.inl ⟨rfl, Or.inl rfl, _, rfl⟩) (hb hby d23_24) hr) hrun hended ⟨_, _, rfl, ?_, ⟨_, rfl⟩, hW, hsame.mono (by decide) (by decide)⟩
    show Q23_m22 Z A1_ P2_ KK3_ P4_ P5_ P6_ h0 n0 _ s₁.heap _
    rw [e0]
    exact ⟨by simp only [own_f23_m22, hm0, ↓reduceIte], N0, rfl⟩
  ·
    refine own_go (fun _ k => XS.iload X0.here hx rfl (hb hby d23_17) rfl (XS.icmpYes X0.here hx rfl (pc0 := 19) (pc' := 25) rfl (hb hby d23_19) rfl (feq hm0).2 (by decide) (by decide) (XS.iinc X0.here hx rfl (hb hby d23_25) rfl (l' := #[SR A1_, SI P2_, SI 0, SI 3, SI (P2_.toInt8.toInt32), SI 1]) rfl (XS.goto X0.here hx rfl (pc0 := 28) (pc' := 7) rfl (hb hby d23_28) (by decide) (by decide) (XS.iload X0.here hx rfl (hb hby d23_7) rfl (XS.iloadN X0.here hx rfl (hb hby d23_9) rfl (XS.icmpNo X0.here hx rfl (hb hby d23_10) rfl (tlt (by decide : (1 : Int32) < (3 : Int32))).2.1 (XS.aloadN X0.here hx rfl (hb hby d23_13) rfl rfl (XS.iload X0.here hx rfl (hb hby d23_14) rfl k))))))))) ?_
    show own_Fin p e below _ s₁ (mkF m 16 #[SR A1_, SI P2_, SI 0, SI 3, SI (P2_.toInt8.toInt32), SI 1] [VI 1, VR A1_])
    obtain ⟨cl3, Ar3, q3, Sz3, Nn3, Hs3, Gg3⟩ := id fm1_
    have i4 : ¬ ((1 : Int32) < 0 ∨ cl3.slots.size ≤ ((1 : Int32)).toNatClampNeg) := inb_of Sz3 ⟨(by decide : ¬ ((1 : Int32) < (0 : Int32))), (by decide : (1 : Int32) < (3 : Int32))⟩
    refine own_go (fun _ k => X0.baloadBytes hx (j := (1 : Int32)) (v := (.int P5_)) (by rw [e0]; exact Ar3.1) (State.isArrayOf_alike hZ.alike Ar3.2.1) Ar3.2.2 i4 (Hs3.at i4 rfl) (g := (mkF m 16 #[SR A1_, SI P2_, SI 0, SI 3, SI (P2_.toInt8.toInt32), SI 1] [VI 1, VR A1_])) rfl rfl (hb hby d23_16) _ k) ?_
    show own_Fin p e below _ s₁ (mkF m 17 #[SR A1_, SI P2_, SI 0, SI 3, SI (P2_.toInt8.toInt32), SI 1] [VI P5_])
    by_cases hm1 : P5_ = (P2_.toInt8.toInt32)
    ·
      refine own_go (fun _ k => XS.iload X0.here hx rfl (hb hby d23_17) rfl (XS.icmpNo X0.here hx rfl (hb hby d23_19) rfl (teq hm1).2 (XS.iload X0.here hx rfl (hb hby d23_22) rfl k))) ?_
      show own_Fin p e below _ s₁ (mkF m 24 #[SR A1_, SI P2_, SI 0, SI 3, SI (P2_.toInt8.toInt32), SI 1] [VI 1])
      obtain ⟨fs, hr, hrun, hended, hW, hsame⟩ := X0.leave (v := some (.int (1 : Int32))) (fun h => by rw [hret] at h; cases h)
      refine own_end (retOut X0 hx hret rfl (Or.inl ⟨rfl, Or.inl rfl, _, rfl⟩) (hb hby d23_24) hr) hrun hended ⟨_, _, rfl, ?_, ⟨_, rfl⟩, hW, hsame.mono (by decide) (by decide)⟩
      show Q23_m22 Z A1_ P2_ KK3_ P4_ P5_ P6_ h0 n0 _ s₁.heap _
      rw [e0]
      exact ⟨by simp only [own_f23_m22, hm0, hm1, ↓reduceIte], N0, rfl⟩
    ·
      refine own_go (fun _ k => XS.iload X0.here hx rfl (hb hby d23_17) rfl (XS.icmpYes X0.here hx rfl (pc0 := 19) (pc' := 25) rfl (hb hby d23_19) rfl (feq hm1).2 (by decide) (by decide) (XS.iinc X0.here hx rfl (hb hby d23_25) rfl (l' := #[SR A1_, SI P2_, SI 0, SI 3, SI (P2_.toInt8.toInt32), SI 2]) rfl (XS.goto X0.here hx rfl (pc0 := 28) (pc' := 7) rfl (hb hby d23_28) (by decide) (by decide) (XS.iload X0.here hx rfl (hb hby d23_7) rfl (XS.iloadN X0.here hx rfl (hb hby d23_9) rfl (XS.icmpNo X0.here hx rfl (hb hby d23_10) rfl (tlt (by decide : (2 : Int32) < (3 : Int32))).2.1 (XS.aloadN X0.here hx rfl (hb hby d23_13) rfl rfl (XS.iload X0.here hx rfl (hb hby d23_14) rfl k))))))))) ?_
      show own_Fin p e below _ s₁ (mkF m 16 #[SR A1_, SI P2_, SI 0, SI 3, SI (P2_.toInt8.toInt32), SI 2] [VI 2, VR A1_])
      obtain ⟨cl5, Ar5, q5, Sz5, Nn5, Hs5, Gg5⟩ := id fm1_
      have i6 : ¬ ((2 : Int32) < 0 ∨ cl5.slots.size ≤ ((2 : Int32)).toNatClampNeg) := inb_of Sz5 ⟨(by decide : ¬ ((2 : Int32) < (0 : Int32))), (by decide : (2 : Int32) < (3 : Int32))⟩
      refine own_go (fun _ k => X0.baloadBytes hx (j := (2 : Int32)) (v := (.int P6_)) (by rw [e0]; exact Ar5.1) (State.isArrayOf_alike hZ.alike Ar5.2.1) Ar5.2.2 i6 (Hs5.at i6 rfl) (g := (mkF m 16 #[SR A1_, SI P2_, SI 0, SI 3, SI (P2_.toInt8.toInt32), SI 2] [VI 2, VR A1_])) rfl rfl (hb hby d23_16) _ k) ?_
      show own_Fin p e below _ s₁ (mkF m 17 #[SR A1_, SI P2_, SI 0, SI 3, SI (P2_.toInt8.toInt32), SI 2] [VI P6_])
      by_cases hm2 : P6_ = (P2_.toInt8.toInt32)
      ·
        refine own_go (fun _ k => XS.iload X0.here hx rfl (hb hby d23_17) rfl (XS.icmpNo X0.here hx rfl (hb hby d23_19) rfl (teq hm2).2 (XS.iload X0.here hx rfl (hb hby d23_22) rfl k))) ?_
        show own_Fin p e below _ s₁ (mkF m 24 #[SR A1_, SI P2_, SI 0, SI 3, SI (P2_.toInt8.toInt32), SI 2] [VI 2])
        obtain ⟨fs, hr, hrun, hended, hW, hsame⟩ := X0.leave (v := some (.int (2 : Int32))) (fun h => by rw [hret] at h; cases h)
        refine own_end (retOut X0 hx hret rfl (Or.inl ⟨rfl, Or.inl rfl, _, rfl⟩) (hb hby d23_24) hr) hrun hended ⟨_, _, rfl, ?_, ⟨_, rfl⟩, hW, hsame.mono (by decide) (by decide)⟩
        show Q23_m22 Z A1_ P2_ KK3_ P4_ P5_ P6_ h0 n0 _ s₁.heap _
        rw [e0]
        exact ⟨by simp only [own_f23_m22, hm0, hm1, hm2, ↓reduceIte], N0, rfl⟩
      ·
        refine own_go (fun _ k => XS.iload X0.here hx rfl (hb hby d23_17) rfl (XS.icmpYes X0.here hx rfl (pc0 := 19) (pc' := 25) rfl (hb hby d23_19) rfl (feq hm2).2 (by decide) (by decide) (XS.iinc X0.here hx rfl (hb hby d23_25) rfl (l' := #[SR A1_, SI P2_, SI 0, SI 3, SI (P2_.toInt8.toInt32), SI 3]) rfl (XS.goto X0.here hx rfl (pc0 := 28) (pc' := 7) rfl (hb hby d23_28) (by decide) (by decide) (XS.iload X0.here hx rfl (hb hby d23_7) rfl (XS.iloadN X0.here hx rfl (hb hby d23_9) rfl (XS.icmpYes X0.here hx rfl (pc0 := 10) (pc' := 31) rfl (hb hby d23_10) rfl (flt (by decide : ¬ ((3 : Int32) < (3 : Int32)))).2.1 (by decide) (by decide) (XS.iconst X0.here hx rfl (hb hby d23_31) k)))))))) ?_
        show own_Fin p e below _ s₁ (mkF m 32 #[SR A1_, SI P2_, SI 0, SI 3, SI (P2_.toInt8.toInt32), SI 3] [VI (-1)])
        obtain ⟨fs, hr, hrun, hended, hW, hsame⟩ := X0.leave (v := some (.int (-1 : Int32))) (fun h => by rw [hret] at h; cases h)
        refine own_end (retOut X0 hx hret rfl (Or.inl ⟨rfl, Or.inl rfl, _, rfl⟩) (hb hby d23_32) hr) hrun hended ⟨_, _, rfl, ?_, ⟨_, rfl⟩, hW, hsame.mono (by decide) (by decide)⟩
        show Q23_m22 Z A1_ P2_ KK3_ P4_ P5_ P6_ h0 n0 _ s₁.heap _
        rw [e0]
        exact ⟨by simp only [own_f23_m22, hm0, hm1, hm2, ↓reduceIte], N0, rfl⟩
theorem ef15_4 (m : MethodId) (a1 : Addr) (p2 : Int32) : entryFrame m #[(.ref a1), (.int p2), (.int (0 : Int32)), (.int (3 : Int32))] 4 = mkF m 0 #[SR a1, SI p2, SI 0, SI 3] [] := by first | (simp [entryFrame, mkF, argsToLocals, Value.category]; done) | rfl
def Q15_4 (Z : State) (a1 : Addr) (p2 : Int32) (k7 : ClassId) (p8 : Int32) (p9 : Int32) (p10 : Int32) (h0 : Heap) (n0 : Nat) (v : Option Value) (h : Heap) (L : List Loc) : Prop := v = some (.int (own_f23_m22 p2 p8 p9 p10)) ∧ Fr n0 L ∧ h = h0
set_option maxRecDepth 65536 in
set_option maxHeartbeats 40000000 in
theorem rm15_4 (l : Launch) (Z : State) (a0 : Array Value) (hw : HW a0 Z) (ws : List Jvm.Cond) (a1 : Addr) (p2 : Int32) (k7 : ClassId) (p8 : Int32) (p9 : Int32) (p10 : Int32) (h0 : Heap) (n0 : Nat) (Z0 : n0 ≤ h0.size) (f3 : ¬ (p2 < (0 : Int32))) (f4 : ¬ ((255 : Int32) < p2)) (f11 : Arv Z h0 a1 k7 .byte 3 [VI p8, VI p9, VI p10] (VI 0)) :
    MetFree l yM14 (head1 (Jvm.Cond.code yM14 jdk_43_method_22_code 4 (some .int) :: ws) ({ frames := 1, cells := 0, slots := 0, locals := 17 } : Room)) (fun a U => a = #[(.ref a1), (.int p2), (.int (0 : Int32)), (.int (3 : Int32))] ∧ Z.Warmed39 U.vm ∧ U.heap = h0) (fun _ _ _ _ _ => True) (fun _ U o U' => ∃ v L, o = .returned v ∧ Q15_4 Z a1 p2 k7 p8 p9 p10 h0 n0 v U'.heap L ∧ FrameEnd U o U' L ({ frames := 1, cells := 0, slots := 0, locals := 17 } : Room).cells ({ frames := 1, cells := 0, slots := 0, locals := 17 } : Room).slots) := by
  refine own_enter (n0 := n0) (plainFor_of_name pn15) (fun m => ef15_4 m a1 p2) ?_
  intro p e s m below meth c s₁ hx hby hml hown hnm hret hlk X0 e0 hZ hh N0
  show own_Fin p e below _ s₁ (mkF m 0 #[SR a1, SI p2, SI 0, SI 3] [])
  refine own_go (fun _ k => XS.iloadN X0.here hx rfl (hb hby d15_0) rfl k) ?_
  show own_Fin p e below _ s₁ (mkF m 1 #[SR a1, SI p2, SI 0, SI 3] [VI p2])
  obtain ⟨_, T5, L5, X5, hQ5, st5⟩ := own_cS X0 hx hZ hown (WW hw 87) (WW hw 88) (WW hw 85) (WW hw 89) (rm16_1 l Z a0 hw [] p2 h0 n0 Z0 f3 f4) e0 hml (g := (mkF m 1 #[SR a1, SI p2, SI 0, SI 3] [VI p2])) pd7 (hb hby d15_1) [VI p2] [] (W := 0)
  obtain ⟨rfl, N5q, e5⟩ := hQ5
  have N5 := Fr.app N0 N5q
  refine own_go st5 ?_
  show own_Fin p e below _ T5 (mkF m 4 #[SR a1, SI p2, SI 0, SI 3] [VI 1])
  refine own_go (fun _ k => XS.ifYes X5.here hx rfl (pc0 := 4) (pc' := 9) rfl (hb hby d15_4) rfl ((if0 _ _).trans (feq (by decide : ¬ ((1 : Int32) = (0 : Int32)))).2) (by decide) (by decide) (XS.iloadN X5.here hx rfl (hb hby d15_9) rfl (XS.iconst X5.here hx rfl (hb hby d15_10) k))) ?_
  show own_Fin p e below _ T5 (mkF m 11 #[SR a1, SI p2, SI 0, SI 3] [VI 0, VI 0])
  obtain ⟨_, T6, L6, X6, hQ6, st6⟩ := own_cS X5 hx hZ hown (WW hw 90) (WW hw 91) (WW hw 92) (WW hw 93) (rm17_1 l Z a0 hw [] (0 : Int32) (0 : Int32) h0 n0 Z0 (by decide : ¬ ((0 : Int32) < (0 : Int32)))) e5 hml (g := (mkF m 11 #[SR a1, SI p2, SI 0, SI 3] [VI 0, VI 0])) pd11 (hb hby d15_11) [VI 0, VI 0] [] (W := 0)
  obtain ⟨rfl, N6q, e6⟩ := hQ6
  have N6 := Fr.app N5 N6q
  refine own_go st6 ?_
  show own_Fin p e below _ T6 (mkF m 14 #[SR a1, SI p2, SI 0, SI 3] [VI 0])
  refine own_go (fun _ k => XS.istoreN X6.here hx rfl (hb hby d15_14) rfl (l' := #[SR a1, SI p2, SI 0, SI 3]) rfl (XS.iloadN X6.here hx rfl (hb hby d15_15) rfl (XS.aloadN X6.here hx rfl (hb hby d15_16) rfl rfl k))) ?_
  show own_Fin p e below _ T6 (mkF m 17 #[SR a1, SI p2, SI 0, SI 3] [VR a1, VI 3])
  obtain ⟨cl12, Ar12, q12, Sz12, Nn12, Hs12, Gg12⟩ := id f11
  refine own_go (fun _ k => X6.arraylength hx (by rw [e6]; exact Ar12.1) (State.isArrayOf_alike hZ.alike Ar12.2.1) (g := (mkF m 17 #[SR a1, SI p2, SI 0, SI 3] [VR a1, VI 3])) rfl rfl (hb hby d15_17) _ k) ?_
  rw [len_of Sz12 Nn12]
  show own_Fin p e below _ T6 (mkF m 18 #[SR a1, SI p2, SI 0, SI 3] [VI 3, VI 3])
  obtain ⟨_, T13, L13, X13, hQ13, st13⟩ := own_cS X6 hx hZ hown (WW hw 94) (WW hw 95) (WW hw 92) (WW hw 96) (rm18_1 l Z a0 hw [] (3 : Int32) (3 : Int32) h0 n0 Z0 (by decide : ¬ ((3 : Int32) < (3 : Int32)))) e6 hml (g := (mkF m 18 #[SR a1, SI p2, SI 0, SI 3] [VI 3, VI 3])) pd11 (hb hby d15_18) [VI 3, VI 3] [] (W := 0)
  obtain ⟨rfl, N13q, e13⟩ := hQ13
  have N13 := Fr.app N6 N13q
  refine own_go st13 ?_
  show own_Fin p e below _ T13 (mkF m 21 #[SR a1, SI p2, SI 0, SI 3] [VI 3])
  refine own_go (fun _ k => XS.istoreN X13.here hx rfl (hb hby d15_21) rfl (l' := #[SR a1, SI p2, SI 0, SI 3]) rfl (XS.iloadN X13.here hx rfl (hb hby d15_22) rfl (XS.iloadN X13.here hx rfl (hb hby d15_23) rfl (XS.icmpYes X13.here hx rfl (pc0 := 24) (pc' := 29) rfl (hb hby d15_24) rfl (tlt (by decide : (0 : Int32) < (3 : Int32))).1 (by decide) (by decide) (XS.aloadN X13.here hx rfl (hb hby d15_29) rfl rfl (XS.iloadN X13.here hx rfl (hb hby d15_30) rfl (XS.iloadN X13.here hx rfl (hb hby d15_31) rfl (XS.iloadN X13.here hx rfl (hb hby d15_32) rfl k)))))))) ?_
  show own_Fin p e below _ T13 (mkF m 33 #[SR a1, SI p2, SI 0, SI 3] [VI 3, VI 0, VI p2, VR a1])
  obtain ⟨_, T14, L14, X14, hQ14, st14⟩ := own_cS X13 hx hZ hown (WW hw 110) (WW hw 111) (WW hw 85) (WW hw 112) (rm23_m22 l Z a0 hw [] a1 p2 k7 p8 p9 p10 h0 n0 Z0 f11) e13 hml (g := (mkF m 33 #[SR a1, SI p2, SI 0, SI 3] [VI 3, VI 0, VI p2, VR a1])) pd12 (hb hby d15_33) [VR a1, VI p2, VI 0, VI 3] [] (W := 0)
  obtain ⟨rfl, N14q, e14⟩ := hQ14
  have N14 := Fr.app N13 N14q
  refine own_go st14 ?_
  show own_Fin p e below _ T14 (mkF m 36 #[SR a1, SI p2, SI 0, SI 3] [VI (own_f23_m22 p2 p8 p9 p10)])
  obtain ⟨fs, hr, hrun, hended, hW, hsame⟩ := X14.leave (v := some (.int (own_f23_m22 p2 p8 p9 p10))) (fun h => by rw [hret] at h; cases h)
  refine own_end (retOut X14 hx hret rfl (Or.inl ⟨rfl, Or.inl rfl, _, rfl⟩) (hb hby d15_36) hr) hrun hended ⟨_, _, rfl, ?_, ⟨_, rfl⟩, hW, hsame.mono (by decide) (by decide)⟩
  show Q15_4 Z a1 p2 k7 p8 p9 p10 h0 n0 _ T14.heap _
  rw [e14]
  exact ⟨rfl, N14, rfl⟩
theorem ef11_4 (m : MethodId) (a1 : Addr) (p2 : Int32) : entryFrame m #[(.ref a1), (.int p2), (.int (0 : Int32))] 3 = mkF m 0 #[SR a1, SI p2, SI 0] [] := by first | (simp [entryFrame, mkF, argsToLocals, Value.category]; done) | rfl
def Q11_4 (Z : State) (a1 : Addr) (p2 : Int32) (p4 : Int32) (a10 : Addr) (k13 : ClassId) (p14 : Int32) (p15 : Int32) (p16 : Int32) (h0 : Heap) (n0 : Nat) (v : Option Value) (h : Heap) (L : List Loc) : Prop := v = some (.int (own_f23_m22 p2 p14 p15 p16)) ∧ Fr n0 L ∧ h = h0
set_option maxRecDepth 65536 in
set_option maxHeartbeats 40000000 in
theorem rm11_4 (l : Launch) (Z : State) (a0 : Array Value) (hw : HW a0 Z) (ws : List Jvm.Cond) (a1 : Addr) (p2 : Int32) (p4 : Int32) (a10 : Addr) (k13 : ClassId) (p14 : Int32) (p15 : Int32) (p16 : Int32) (h0 : Heap) (n0 : Nat) (Z0 : n0 ≤ h0.size) (f3 : Exa Z h0 a1 cC3) (f5 : Sta Z Z.heap "java/lang/String" "COMPACT_STRINGS" "Z" (.int p4)) (f6 : Old Z n0 h0) (f7 : ¬ (p4 = (0 : Int32))) (f8 : Fld Z h0 a1 cC3 "coder" "B" (VI 0)) (f11 : Fld Z h0 a1 cC3 "value" "[B" (VR a10)) (f17 : Arv Z h0 a10 k13 .byte 3 [VI p14, VI p15, VI p16] (VI 0)) (f19 : ¬ (p2 < (0 : Int32))) (f20 : ¬ ((255 : Int32) < p2)) :
    MetFree l yM15 (head1 (Jvm.Cond.code yM15 jdk_42_method_80_code 3 (some .int) :: ws) ({ frames := 2, cells := 0, slots := 0, locals := 32 } : Room)) (fun a U => a = #[(.ref a1), (.int p2), (.int (0 : Int32))] ∧ Z.Warmed39 U.vm ∧ U.heap = h0) (fun _ _ _ _ _ => True) (fun _ U o U' => ∃ v L, o = .returned v ∧ Q11_4 Z a1 p2 p4 a10 k13 p14 p15 p16 h0 n0 v U'.heap L ∧ FrameEnd U o U' L ({ frames := 2, cells := 0, slots := 0, locals := 32 } : Room).cells ({ frames := 2, cells := 0, slots := 0, locals := 32 } : Room).slots) := by
  refine own_enter (n0 := n0) (plainFor_of_name pn3) (fun m => ef11_4 m a1 p2) ?_
  intro p e s m below meth c s₁ hx hby hml hown hnm hret hlk X0 e0 hZ hh N0
  show own_Fin p e below _ s₁ (mkF m 0 #[SR a1, SI p2, SI 0] [])
  refine own_go (fun _ k => XS.aloadN X0.here hx rfl (hb hby d11_0) rfl rfl k) ?_
  show own_Fin p e below _ s₁ (mkF m 1 #[SR a1, SI p2, SI 0] [VR a1])
  obtain ⟨_, T9, L9, X9, hQ9, st9⟩ := own_cV X0 hx hZ hown (WW hw 67) (WW hw 68) (notFace_of_selects (args := #[]) (mvT hZ (WW hw 70))) (WW hw 70) (WW hw 69) (WW hw 12) (WW hw 71) (rm12_1 l Z a0 hw [] a1 p4 h0 n0 Z0 f5 f6 f7 f8) e0 f3 hml (g := (mkF m 1 #[SR a1, SI p2, SI 0] [VR a1])) pd8 (hb hby d11_1) [] [] (W := 0)
  obtain ⟨rfl, N9q, e9⟩ := hQ9
  have N9 := Fr.app N0 N9q
  refine own_go st9 ?_
  show own_Fin p e below _ T9 (mkF m 4 #[SR a1, SI p2, SI 0] [VI 1])
  refine own_go (fun _ k => XS.ifNo X9.here hx rfl (hb hby d11_4) rfl ((if0 _ _).trans (feq (by decide : ¬ ((1 : Int32) = (0 : Int32)))).1) (XS.aloadN X9.here hx rfl (hb hby d11_7) rfl rfl k)) ?_
  show own_Fin p e below _ T9 (mkF m 8 #[SR a1, SI p2, SI 0] [VR a1])
  obtain ⟨T12, X12, e12, st12⟩ := getF X9 hx hZ hown (host := "") (Or.inl (WW hw 30)) Via.refl e9 f11 (g := (mkF m 8 #[SR a1, SI p2, SI 0] [VR a1])) rfl rfl (hb hby d11_8)
  refine own_go st12 ?_
  show own_Fin p e below _ T12 (mkF m 11 #[SR a1, SI p2, SI 0] [VR a10])
  refine own_go (fun _ k => XS.iloadN X12.here hx rfl (hb hby d11_11) rfl (XS.iloadN X12.here hx rfl (hb hby d11_12) rfl (XS.aloadN X12.here hx rfl (hb hby d11_13) rfl rfl k))) ?_
  show own_Fin p e below _ T12 (mkF m 14 #[SR a1, SI p2, SI 0] [VR a1, VI 0, VI p2, VR a10])
  obtain ⟨_, T18, L18, X18, hQ18, st18⟩ := own_cV X12 hx hZ hown (WW hw 73) (WW hw 74) (notFace_of_selects (args := #[]) (mvT hZ (WW hw 76))) (WW hw 76) (WW hw 75) (WW hw 12) (WW hw 77) (rm13_4 l Z a0 hw [] a1 a10 k13 p14 p15 p16 p4 h0 n0 Z0 f11 f17 f3 f5 f6 f7 f8) e12 f3 hml (g := (mkF m 14 #[SR a1, SI p2, SI 0] [VR a1, VI 0, VI p2, VR a10])) pd10 (hb hby d11_14) [] [VI 0, VI p2, VR a10] (W := 3)
  obtain ⟨rfl, N18q, e18⟩ := hQ18
  have N18 := Fr.app N9 N18q
  refine own_go st18 ?_
  show own_Fin p e below _ T18 (mkF m 17 #[SR a1, SI p2, SI 0] [VI 3, VI 0, VI p2, VR a10])
  obtain ⟨_, T21, L21, X21, hQ21, st21⟩ := own_cS X18 hx hZ hown (WW hw 83) (WW hw 84) (WW hw 85) (WW hw 86) (rm15_4 l Z a0 hw [] a10 p2 k13 p14 p15 p16 h0 n0 Z0 f19 f20 f17) e18 hml (g := (mkF m 17 #[SR a1, SI p2, SI 0] [VI 3, VI 0, VI p2, VR a10])) pd12 (hb hby d11_17) [VR a10, VI p2, VI 0, VI 3] [] (W := 0)
  obtain ⟨rfl, N21q, e21⟩ := hQ21
  have N21 := Fr.app N18 N21q
  refine own_go st21 ?_
  show own_Fin p e below _ T21 (mkF m 20 #[SR a1, SI p2, SI 0] [VI (own_f23_m22 p2 p14 p15 p16)])
  refine own_go (fun _ k => XS.goto X21.here hx rfl (pc0 := 20) (pc' := 36) rfl (hb hby d11_20) (by decide) (by decide) k) ?_
  show own_Fin p e below _ T21 (mkF m 36 #[SR a1, SI p2, SI 0] [VI (own_f23_m22 p2 p14 p15 p16)])
  obtain ⟨fs, hr, hrun, hended, hW, hsame⟩ := X21.leave (v := some (.int (own_f23_m22 p2 p14 p15 p16))) (fun h => by rw [hret] at h; cases h)
  refine own_end (retOut X21 hx hret rfl (Or.inl ⟨rfl, Or.inl rfl, _, rfl⟩) (hb hby d11_36) hr) hrun hended ⟨_, _, rfl, ?_, ⟨_, rfl⟩, hW, hsame.mono (by decide) (by decide)⟩
  show Q11_4 Z a1 p2 p4 a10 k13 p14 p15 p16 h0 n0 _ T21.heap _
  rw [e21]
  exact ⟨rfl, N21, rfl⟩
theorem ef10_4 (m : MethodId) (a1 : Addr) (p2 : Int32) : entryFrame m #[(.ref a1), (.int p2)] 2 = mkF m 0 #[SR a1, SI p2] [] := by first | (simp [entryFrame, mkF, argsToLocals, Value.category]; done) | rfl
def Q10_4 (Z : State) (a1 : Addr) (p2 : Int32) (p4 : Int32) (a9 : Addr) (k11 : ClassId) (p12 : Int32) (p13 : Int32) (p14 : Int32) (h0 : Heap) (n0 : Nat) (v : Option Value) (h : Heap) (L : List Loc) : Prop := v = some (.int (own_f23_m22 p2 p12 p13 p14)) ∧ Fr n0 L ∧ h = h0
set_option maxRecDepth 65536 in
set_option maxHeartbeats 40000000 in
theorem rm10_4 (l : Launch) (Z : State) (a0 : Array Value) (hw : HW a0 Z) (ws : List Jvm.Cond) (a1 : Addr) (p2 : Int32) (p4 : Int32) (a9 : Addr) (k11 : ClassId) (p12 : Int32) (p13 : Int32) (p14 : Int32) (h0 : Heap) (n0 : Nat) (Z0 : n0 ≤ h0.size) (f3 : Exa Z h0 a1 cC3) (f5 : Sta Z Z.heap "java/lang/String" "COMPACT_STRINGS" "Z" (.int p4)) (f6 : Old Z n0 h0) (f7 : ¬ (p4 = (0 : Int32))) (f8 : Fld Z h0 a1 cC3 "coder" "B" (VI 0)) (f10 : Fld Z h0 a1 cC3 "value" "[B" (VR a9)) (f15 : Arv Z h0 a9 k11 .byte 3 [VI p12, VI p13, VI p14] (VI 0)) (f16 : ¬ (p2 < (0 : Int32))) (f17 : ¬ ((255 : Int32) < p2)) :
    MetFree l yM16 (head1 (Jvm.Cond.code yM16 jdk_42_method_79_code 2 (some .int) :: ws) ({ frames := 3, cells := 0, slots := 0, locals := 46 } : Room)) (fun a U => a = #[(.ref a1), (.int p2)] ∧ Z.Warmed39 U.vm ∧ U.heap = h0) (fun _ _ _ _ _ => True) (fun _ U o U' => ∃ v L, o = .returned v ∧ Q10_4 Z a1 p2 p4 a9 k11 p12 p13 p14 h0 n0 v U'.heap L ∧ FrameEnd U o U' L ({ frames := 3, cells := 0, slots := 0, locals := 46 } : Room).cells ({ frames := 3, cells := 0, slots := 0, locals := 46 } : Room).slots) := by
  refine own_enter (n0 := n0) (plainFor_of_name pn3) (fun m => ef10_4 m a1 p2) ?_
  intro p e s m below meth c s₁ hx hby hml hown hnm hret hlk X0 e0 hZ hh N0
  show own_Fin p e below _ s₁ (mkF m 0 #[SR a1, SI p2] [])
  refine own_go (fun _ k => XS.aloadN X0.here hx rfl (hb hby d10_0) rfl rfl (XS.iloadN X0.here hx rfl (hb hby d10_1) rfl (XS.iconst X0.here hx rfl (hb hby d10_2) k))) ?_
  show own_Fin p e below _ s₁ (mkF m 3 #[SR a1, SI p2] [VI 0, VI p2, VR a1])
  obtain ⟨_, T18, L18, X18, hQ18, st18⟩ := own_cV X0 hx hZ hown (WW hw 62) (WW hw 63) (notFace_of_selects (args := #[]) (mvT hZ (WW hw 65))) (WW hw 65) (WW hw 64) (WW hw 12) (WW hw 66) (rm11_4 l Z a0 hw [] a1 p2 p4 a9 k11 p12 p13 p14 h0 n0 Z0 f3 f5 f6 f7 f8 f10 f15 f16 f17) e0 f3 hml (g := (mkF m 3 #[SR a1, SI p2] [VI 0, VI p2, VR a1])) pd11 (hb hby d10_3) [VI p2, VI 0] [] (W := 0)
  obtain ⟨rfl, N18q, e18⟩ := hQ18
  have N18 := Fr.app N0 N18q
  refine own_go st18 ?_
  show own_Fin p e below _ T18 (mkF m 6 #[SR a1, SI p2] [VI (own_f23_m22 p2 p12 p13 p14)])
  obtain ⟨fs, hr, hrun, hended, hW, hsame⟩ := X18.leave (v := some (.int (own_f23_m22 p2 p12 p13 p14))) (fun h => by rw [hret] at h; cases h)
  refine own_end (retOut X18 hx hret rfl (Or.inl ⟨rfl, Or.inl rfl, _, rfl⟩) (hb hby d10_6) hr) hrun hended ⟨_, _, rfl, ?_, ⟨_, rfl⟩, hW, hsame.mono (by decide) (by decide)⟩
  show Q10_4 Z a1 p2 p4 a9 k11 p12 p13 p14 h0 n0 _ T18.heap _
  rw [e18]
  exact ⟨rfl, N18, rfl⟩
theorem own_link_23_m22_8_m18 (x : Int32) : ((own_f8_m18 x) = (0 : Int32) → ¬ (own_f23_m22 (63 : Int32) ((nar .char (own_f19_m4 x)).toInt8.toInt32) ((nar .char (own_f19_m5 x)).toInt8.toInt32) ((nar .char (own_f19_m6 x)).toInt8.toInt32)) < (0 : Int32)) ∧ (¬ (own_f8_m18 x) = (0 : Int32) → (own_f23_m22 (63 : Int32) ((nar .char (own_f19_m4 x)).toInt8.toInt32) ((nar .char (own_f19_m5 x)).toInt8.toInt32) ((nar .char (own_f19_m6 x)).toInt8.toInt32)) < (0 : Int32)) := by
  rcases Classical.em (own_f19_m4 x = (63 : Int32)) with a0 | a0 <;> rcases Classical.em (own_f19_m5 x = (63 : Int32)) with a1 | a1 <;> rcases Classical.em (own_f19_m6 x = (63 : Int32)) with a2 | a2 <;> simp [own_f23_m22, own_f8_m18, (by decide : ((63 : Int32).toInt8.toInt32) = (63 : Int32)), (by decide : (nar .char (63 : Int32)).toInt8.toInt32 = (63 : Int32)), own_b63_19_m4, own_b63_19_m5, own_b63_19_m6, a0, a1, a2]
theorem ef9_6 (m : MethodId) (a1 : Addr) : entryFrame m #[(.ref a1)] 1 = mkF m 0 #[SR a1] [] := by first | (simp [entryFrame, mkF, argsToLocals, Value.category]; done) | rfl
def Q9_6 (Z : State) (a1 : Addr) (a2 : Addr) (p6 : Int32) (a11 : Addr) (k13 : ClassId) (a16 : Addr) (a21 : Addr) (k23 : ClassId) (p24 : Int32) (p25 : Int32) (p26 : Int32) (h0 : Heap) (n0 : Nat) (v : Option Value) (h : Heap) (L : List Loc) : Prop := v = some (.int (0 : Int32)) ∧ Fr n0 L ∧ h = h0
set_option maxRecDepth 65536 in
set_option maxHeartbeats 40000000 in
theorem rm9_6 (l : Launch) (Z : State) (a0 : Array Value) (hw : HW a0 Z) (ws : List Jvm.Cond) (a1 : Addr) (a2 : Addr) (p6 : Int32) (a11 : Addr) (k13 : ClassId) (a16 : Addr) (a21 : Addr) (k23 : ClassId) (p24 : Int32) (p25 : Int32) (p26 : Int32) (h0 : Heap) (n0 : Nat) (Z0 : n0 ≤ h0.size) (f3 : Fld Z h0 a1 cC0 "article" cC1 (VR a2)) (f5 : Exa Z h0 a2 cC3) (f7 : Sta Z Z.heap "java/lang/String" "COMPACT_STRINGS" "Z" (.int p6)) (f8 : Old Z n0 h0) (f9 : ¬ (p6 = (0 : Int32))) (f10 : Fld Z h0 a2 cC3 "coder" "B" (VI 0)) (f12 : Fld Z h0 a2 cC3 "value" "[B" (VR a11)) (f14 : Arv Z h0 a11 k13 .byte 0 [] (VI 0)) (f17 : Fld Z h0 a1 cC0 "clause" cC1 (VR a16)) (f19 : Exa Z h0 a16 cC3) (f20 : Fld Z h0 a16 cC3 "coder" "B" (VI 0)) (f22 : Fld Z h0 a16 cC3 "value" "[B" (VR a21)) (f27 : Arv Z h0 a21 k23 .byte 3 [VI p24, VI p25, VI p26] (VI 0)) (f29 : ¬ ((own_f23_m22 (63 : Int32) p24 p25 p26) < (0 : Int32))) :
    MetFree l yM17 (head1 (Jvm.Cond.code yM17 prog_105_method_2_code 1 (some .boolean) :: ws) ({ frames := 4, cells := 0, slots := 0, locals := 59 } : Room)) (fun a U => a = #[(.ref a1)] ∧ Z.Warmed39 U.vm ∧ U.heap = h0) (fun _ _ _ _ _ => True) (fun _ U o U' => ∃ v L, o = .returned v ∧ Q9_6 Z a1 a2 p6 a11 k13 a16 a21 k23 p24 p25 p26 h0 n0 v U'.heap L ∧ FrameEnd U o U' L ({ frames := 4, cells := 0, slots := 0, locals := 59 } : Room).cells ({ frames := 4, cells := 0, slots := 0, locals := 59 } : Room).slots) := by
  refine own_enter (n0 := n0) (plainFor_of_name pn6) (fun m => ef9_6 m a1) ?_
  intro p e s m below meth c s₁ hx hby hml hown hnm hret hlk X0 e0 hZ hh N0
  show own_Fin p e below _ s₁ (mkF m 0 #[SR a1] [])
  refine own_go (fun _ k => XS.aloadN X0.here hx rfl (hb hby d9_0) rfl rfl k) ?_
  show own_Fin p e below _ s₁ (mkF m 1 #[SR a1] [VR a1])
  obtain ⟨T4, X4, e4, st4⟩ := getF X0 hx hZ hown (host := "") (Or.inl (WW hw 43)) Via.refl e0 f3 (g := (mkF m 1 #[SR a1] [VR a1])) rfl rfl (hb hby d9_1)
  refine own_go st4 ?_
  show own_Fin p e below _ T4 (mkF m 4 #[SR a1] [VR a2])
  refine own_go (fun _ k => XS.bipush X4.here hx rfl (hb hby d9_4) k) ?_
  show own_Fin p e below _ T4 (mkF m 6 #[SR a1] [VI 63, VR a2])
  obtain ⟨_, T15, L15, X15, hQ15, st15⟩ := own_cV X4 hx hZ hown (WW hw 57) (WW hw 58) (notFace_of_selects (args := #[]) (mvT hZ (WW hw 60))) (WW hw 60) (WW hw 59) (WW hw 12) (WW hw 61) (rm10_1 l Z a0 hw [] a2 (63 : Int32) p6 a11 k13 h0 n0 Z0 f5 f7 f8 f9 f10 f12 f14 (by decide : ¬ ((63 : Int32) < (0 : Int32))) (by decide : ¬ ((255 : Int32) < (63 : Int32)))) e4 f5 hml (g := (mkF m 6 #[SR a1] [VI 63, VR a2])) pd0 (hb hby d9_6) [VI 63] [] (W := 0)
  obtain ⟨rfl, N15q, e15⟩ := hQ15
  have N15 := Fr.app N0 N15q
  refine own_go st15 ?_
  show own_Fin p e below _ T15 (mkF m 9 #[SR a1] [VI (-1)])
  refine own_go (fun _ k => XS.ifNo X15.here hx rfl (hb hby d9_9) rfl ((if0 _ _).trans (tlt (by decide : (-1 : Int32) < (0 : Int32))).2.1) (XS.aloadN X15.here hx rfl (hb hby d9_12) rfl rfl k)) ?_
  show own_Fin p e below _ T15 (mkF m 13 #[SR a1] [VR a1])
  obtain ⟨T18, X18, e18, st18⟩ := getF X15 hx hZ hown (host := "") (Or.inl (WW hw 45)) Via.refl e15 f17 (g := (mkF m 13 #[SR a1] [VR a1])) rfl rfl (hb hby d9_13)
  refine own_go st18 ?_
  show own_Fin p e below _ T18 (mkF m 16 #[SR a1] [VR a16])
  refine own_go (fun _ k => XS.bipush X18.here hx rfl (hb hby d9_16) k) ?_
  show own_Fin p e below _ T18 (mkF m 18 #[SR a1] [VI 63, VR a16])
  obtain ⟨_, T28, L28, X28, hQ28, st28⟩ := own_cV X18 hx hZ hown (WW hw 57) (WW hw 58) (notFace_of_selects (args := #[]) (mvT hZ (WW hw 60))) (WW hw 60) (WW hw 59) (WW hw 12) (WW hw 61) (rm10_4 l Z a0 hw [] a16 (63 : Int32) p6 a21 k23 p24 p25 p26 h0 n0 Z0 f19 f7 f8 f9 f20 f22 f27 (by decide : ¬ ((63 : Int32) < (0 : Int32))) (by decide : ¬ ((255 : Int32) < (63 : Int32)))) e18 f19 hml (g := (mkF m 18 #[SR a1] [VI 63, VR a16])) pd0 (hb hby d9_18) [VI 63] [] (W := 0)
  obtain ⟨rfl, N28q, e28⟩ := hQ28
  have N28 := Fr.app N15 N28q
  refine own_go st28 ?_
  show own_Fin p e below _ T28 (mkF m 21 #[SR a1] [VI (own_f23_m22 (63 : Int32) p24 p25 p26)])
  refine own_go (fun _ k => XS.ifYes X28.here hx rfl (pc0 := 21) (pc' := 28) rfl (hb hby d9_21) rfl ((if0 _ _).trans (flt f29).2.1) (by decide) (by decide) (XS.iconst X28.here hx rfl (hb hby d9_28) k)) ?_
  show own_Fin p e below _ T28 (mkF m 29 #[SR a1] [VI 0])
  obtain ⟨fs, hr, hrun, hended, hW, hsame⟩ := X28.leave (v := some (.int (0 : Int32))) (fun h => by rw [hret] at h; cases h)
  refine own_end (retN X28 hx (t := .boolean) hret (by simp) (hb hby d9_29) hr) hrun hended ⟨_, _, rfl, ?_, ⟨_, rfl⟩, hW, hsame.mono (by decide) (by decide)⟩
  show Q9_6 Z a1 a2 p6 a11 k13 a16 a21 k23 p24 p25 p26 h0 n0 _ T28.heap _
  rw [e28]
  exact ⟨rfl, N28, rfl⟩
theorem ef9_7 (m : MethodId) (a1 : Addr) : entryFrame m #[(.ref a1)] 1 = mkF m 0 #[SR a1] [] := by first | (simp [entryFrame, mkF, argsToLocals, Value.category]; done) | rfl
def Q9_7 (Z : State) (a1 : Addr) (a2 : Addr) (p6 : Int32) (a11 : Addr) (k13 : ClassId) (a16 : Addr) (a21 : Addr) (k23 : ClassId) (p24 : Int32) (p25 : Int32) (p26 : Int32) (h0 : Heap) (n0 : Nat) (v : Option Value) (h : Heap) (L : List Loc) : Prop := v = some (.int (1 : Int32)) ∧ Fr n0 L ∧ h = h0
set_option maxRecDepth 65536 in
set_option maxHeartbeats 40000000 in
theorem rm9_7 (l : Launch) (Z : State) (a0 : Array Value) (hw : HW a0 Z) (ws : List Jvm.Cond) (a1 : Addr) (a2 : Addr) (p6 : Int32) (a11 : Addr) (k13 : ClassId) (a16 : Addr) (a21 : Addr) (k23 : ClassId) (p24 : Int32) (p25 : Int32) (p26 : Int32) (h0 : Heap) (n0 : Nat) (Z0 : n0 ≤ h0.size) (f3 : Fld Z h0 a1 cC0 "article" cC1 (VR a2)) (f5 : Exa Z h0 a2 cC3) (f7 : Sta Z Z.heap "java/lang/String" "COMPACT_STRINGS" "Z" (.int p6)) (f8 : Old Z n0 h0) (f9 : ¬ (p6 = (0 : Int32))) (f10 : Fld Z h0 a2 cC3 "coder" "B" (VI 0)) (f12 : Fld Z h0 a2 cC3 "value" "[B" (VR a11)) (f14 : Arv Z h0 a11 k13 .byte 0 [] (VI 0)) (f17 : Fld Z h0 a1 cC0 "clause" cC1 (VR a16)) (f19 : Exa Z h0 a16 cC3) (f20 : Fld Z h0 a16 cC3 "coder" "B" (VI 0)) (f22 : Fld Z h0 a16 cC3 "value" "[B" (VR a21)) (f27 : Arv Z h0 a21 k23 .byte 3 [VI p24, VI p25, VI p26] (VI 0)) (f29 : (own_f23_m22 (63 : Int32) p24 p25 p26) < (0 : Int32)) :
    MetFree l yM17 (head1 (Jvm.Cond.code yM17 prog_105_method_2_code 1 (some .boolean) :: ws) ({ frames := 4, cells := 0, slots := 0, locals := 59 } : Room)) (fun a U => a = #[(.ref a1)] ∧ Z.Warmed39 U.vm ∧ U.heap = h0) (fun _ _ _ _ _ => True) (fun _ U o U' => ∃ v L, o = .returned v ∧ Q9_7 Z a1 a2 p6 a11 k13 a16 a21 k23 p24 p25 p26 h0 n0 v U'.heap L ∧ FrameEnd U o U' L ({ frames := 4, cells := 0, slots := 0, locals := 59 } : Room).cells ({ frames := 4, cells := 0, slots := 0, locals := 59 } : Room).slots) := by
  refine own_enter (n0 := n0) (plainFor_of_name pn6) (fun m => ef9_7 m a1) ?_
  intro p e s m below meth c s₁ hx hby hml hown hnm hret hlk X0 e0 hZ hh N0
  show own_Fin p e below _ s₁ (mkF m 0 #[SR a1] [])
  refine own_go (fun _ k => XS.aloadN X0.here hx rfl (hb hby d9_0) rfl rfl k) ?_
  show own_Fin p e below _ s₁ (mkF m 1 #[SR a1] [VR a1])
  obtain ⟨T4, X4, e4, st4⟩ := getF X0 hx hZ hown (host := "") (Or.inl (WW hw 43)) Via.refl e0 f3 (g := (mkF m 1 #[SR a1] [VR a1])) rfl rfl (hb hby d9_1)
  refine own_go st4 ?_
  show own_Fin p e below _ T4 (mkF m 4 #[SR a1] [VR a2])
  refine own_go (fun _ k => XS.bipush X4.here hx rfl (hb hby d9_4) k) ?_
  show own_Fin p e below _ T4 (mkF m 6 #[SR a1] [VI 63, VR a2])
  obtain ⟨_, T15, L15, X15, hQ15, st15⟩ := own_cV X4 hx hZ hown (WW hw 57) (WW hw 58) (notFace_of_selects (args := #[]) (mvT hZ (WW hw 60))) (WW hw 60) (WW hw 59) (WW hw 12) (WW hw 61) (rm10_1 l Z a0 hw [] a2 (63 : Int32) p6 a11 k13 h0 n0 Z0 f5 f7 f8 f9 f10 f12 f14 (by decide : ¬ ((63 : Int32) < (0 : Int32))) (by decide : ¬ ((255 : Int32) < (63 : Int32)))) e4 f5 hml (g := (mkF m 6 #[SR a1] [VI 63, VR a2])) pd0 (hb hby d9_6) [VI 63] [] (W := 0)
  obtain ⟨rfl, N15q, e15⟩ := hQ15
  have N15 := Fr.app N0 N15q
  refine own_go st15 ?_
  show own_Fin p e below _ T15 (mkF m 9 #[SR a1] [VI (-1)])
  refine own_go (fun _ k => XS.ifNo X15.here hx rfl (hb hby d9_9) rfl ((if0 _ _).trans (tlt (by decide : (-1 : Int32) < (0 : Int32))).2.1) (XS.aloadN X15.here hx rfl (hb hby d9_12) rfl rfl k)) ?_
  show own_Fin p e below _ T15 (mkF m 13 #[SR a1] [VR a1])
  obtain ⟨T18, X18, e18, st18⟩ := getF X15 hx hZ hown (host := "") (Or.inl (WW hw 45)) Via.refl e15 f17 (g := (mkF m 13 #[SR a1] [VR a1])) rfl rfl (hb hby d9_13)
  refine own_go st18 ?_
  show own_Fin p e below _ T18 (mkF m 16 #[SR a1] [VR a16])
  refine own_go (fun _ k => XS.bipush X18.here hx rfl (hb hby d9_16) k) ?_
  show own_Fin p e below _ T18 (mkF m 18 #[SR a1] [VI 63, VR a16])
  obtain ⟨_, T28, L28, X28, hQ28, st28⟩ := own_cV X18 hx hZ hown (WW hw 57) (WW hw 58) (notFace_of_selects (args := #[]) (mvT hZ (WW hw 60))) (WW hw 60) (WW hw 59) (WW hw 12) (WW hw 61) (rm10_4 l Z a0 hw [] a16 (63 : Int32) p6 a21 k23 p24 p25 p26 h0 n0 Z0 f19 f7 f8 f9 f20 f22 f27 (by decide : ¬ ((63 : Int32) < (0 : Int32))) (by decide : ¬ ((255 : Int32) < (63 : Int32)))) e18 f19 hml (g := (mkF m 18 #[SR a1] [VI 63, VR a16])) pd0 (hb hby d9_18) [VI 63] [] (W := 0)
  obtain ⟨rfl, N28q, e28⟩ := hQ28
  have N28 := Fr.app N15 N28q
  refine own_go st28 ?_
  show own_Fin p e below _ T28 (mkF m 21 #[SR a1] [VI (own_f23_m22 (63 : Int32) p24 p25 p26)])
  refine own_go (fun _ k => XS.ifNo X28.here hx rfl (hb hby d9_21) rfl ((if0 _ _).trans (tlt f29).2.1) (XS.iconst X28.here hx rfl (hb hby d9_24) (XS.goto X28.here hx rfl (pc0 := 25) (pc' := 29) rfl (hb hby d9_25) (by decide) (by decide) k))) ?_
  show own_Fin p e below _ T28 (mkF m 29 #[SR a1] [VI 1])
  obtain ⟨fs, hr, hrun, hended, hW, hsame⟩ := X28.leave (v := some (.int (1 : Int32))) (fun h => by rw [hret] at h; cases h)
  refine own_end (retN X28 hx (t := .boolean) hret (by simp) (hb hby d9_29) hr) hrun hended ⟨_, _, rfl, ?_, ⟨_, rfl⟩, hW, hsame.mono (by decide) (by decide)⟩
  show Q9_7 Z a1 a2 p6 a11 k13 a16 a21 k23 p24 p25 p26 h0 n0 _ T28.heap _
  rw [e28]
  exact ⟨rfl, N28, rfl⟩
theorem ef9_8 (m : MethodId) (a1 : Addr) : entryFrame m #[(.ref a1)] 1 = mkF m 0 #[SR a1] [] := by first | (simp [entryFrame, mkF, argsToLocals, Value.category]; done) | rfl
def Q9_8 (Z : State) (a1 : Addr) (a2 : Addr) (p6 : Int32) (a11 : Addr) (k13 : ClassId) (p14 : Int32) (h0 : Heap) (n0 : Nat) (v : Option Value) (h : Heap) (L : List Loc) : Prop := v = some (.int (0 : Int32)) ∧ Fr n0 L ∧ h = h0
set_option maxRecDepth 65536 in
set_option maxHeartbeats 40000000 in
theorem rm9_8 (l : Launch) (Z : State) (a0 : Array Value) (hw : HW a0 Z) (ws : List Jvm.Cond) (a1 : Addr) (a2 : Addr) (p6 : Int32) (a11 : Addr) (k13 : ClassId) (p14 : Int32) (h0 : Heap) (n0 : Nat) (Z0 : n0 ≤ h0.size) (f3 : Fld Z h0 a1 cC0 "article" cC1 (VR a2)) (f5 : Exa Z h0 a2 cC3) (f7 : Sta Z Z.heap "java/lang/String" "COMPACT_STRINGS" "Z" (.int p6)) (f8 : Old Z n0 h0) (f9 : ¬ (p6 = (0 : Int32))) (f10 : Fld Z h0 a2 cC3 "coder" "B" (VI 0)) (f12 : Fld Z h0 a2 cC3 "value" "[B" (VR a11)) (f15 : Arv Z h0 a11 k13 .byte 1 [VI p14] (VI 0)) (f17 : ¬ ((own_f23_m12 (63 : Int32) p14) < (0 : Int32))) :
    MetFree l yM17 (head1 (Jvm.Cond.code yM17 prog_105_method_2_code 1 (some .boolean) :: ws) ({ frames := 4, cells := 0, slots := 0, locals := 59 } : Room)) (fun a U => a = #[(.ref a1)] ∧ Z.Warmed39 U.vm ∧ U.heap = h0) (fun _ _ _ _ _ => True) (fun _ U o U' => ∃ v L, o = .returned v ∧ Q9_8 Z a1 a2 p6 a11 k13 p14 h0 n0 v U'.heap L ∧ FrameEnd U o U' L ({ frames := 4, cells := 0, slots := 0, locals := 59 } : Room).cells ({ frames := 4, cells := 0, slots := 0, locals := 59 } : Room).slots) := by
  refine own_enter (n0 := n0) (plainFor_of_name pn6) (fun m => ef9_8 m a1) ?_
  intro p e s m below meth c s₁ hx hby hml hown hnm hret hlk X0 e0 hZ hh N0
  show own_Fin p e below _ s₁ (mkF m 0 #[SR a1] [])
  refine own_go (fun _ k => XS.aloadN X0.here hx rfl (hb hby d9_0) rfl rfl k) ?_
  show own_Fin p e below _ s₁ (mkF m 1 #[SR a1] [VR a1])
  obtain ⟨T4, X4, e4, st4⟩ := getF X0 hx hZ hown (host := "") (Or.inl (WW hw 43)) Via.refl e0 f3 (g := (mkF m 1 #[SR a1] [VR a1])) rfl rfl (hb hby d9_1)
  refine own_go st4 ?_
  show own_Fin p e below _ T4 (mkF m 4 #[SR a1] [VR a2])
  refine own_go (fun _ k => XS.bipush X4.here hx rfl (hb hby d9_4) k) ?_
  show own_Fin p e below _ T4 (mkF m 6 #[SR a1] [VI 63, VR a2])
  obtain ⟨_, T16, L16, X16, hQ16, st16⟩ := own_cV X4 hx hZ hown (WW hw 57) (WW hw 58) (notFace_of_selects (args := #[]) (mvT hZ (WW hw 60))) (WW hw 60) (WW hw 59) (WW hw 12) (WW hw 61) (rm10_2 l Z a0 hw [] a2 (63 : Int32) p6 a11 k13 p14 h0 n0 Z0 f5 f7 f8 f9 f10 f12 f15 (by decide : ¬ ((63 : Int32) < (0 : Int32))) (by decide : ¬ ((255 : Int32) < (63 : Int32)))) e4 f5 hml (g := (mkF m 6 #[SR a1] [VI 63, VR a2])) pd0 (hb hby d9_6) [VI 63] [] (W := 0)
  obtain ⟨rfl, N16q, e16⟩ := hQ16
  have N16 := Fr.app N0 N16q
  refine own_go st16 ?_
  show own_Fin p e below _ T16 (mkF m 9 #[SR a1] [VI (own_f23_m12 (63 : Int32) p14)])
  refine own_go (fun _ k => XS.ifYes X16.here hx rfl (pc0 := 9) (pc' := 28) rfl (hb hby d9_9) rfl ((if0 _ _).trans (flt f17).2.1) (by decide) (by decide) (XS.iconst X16.here hx rfl (hb hby d9_28) k)) ?_
  show own_Fin p e below _ T16 (mkF m 29 #[SR a1] [VI 0])
  obtain ⟨fs, hr, hrun, hended, hW, hsame⟩ := X16.leave (v := some (.int (0 : Int32))) (fun h => by rw [hret] at h; cases h)
  refine own_end (retN X16 hx (t := .boolean) hret (by simp) (hb hby d9_29) hr) hrun hended ⟨_, _, rfl, ?_, ⟨_, rfl⟩, hW, hsame.mono (by decide) (by decide)⟩
  show Q9_8 Z a1 a2 p6 a11 k13 p14 h0 n0 _ T16.heap _
  rw [e16]
  exact ⟨rfl, N16, rfl⟩
theorem ef9_9 (m : MethodId) (a1 : Addr) : entryFrame m #[(.ref a1)] 1 = mkF m 0 #[SR a1] [] := by first | (simp [entryFrame, mkF, argsToLocals, Value.category]; done) | rfl
def Q9_9 (Z : State) (a1 : Addr) (a2 : Addr) (p6 : Int32) (a11 : Addr) (k13 : ClassId) (p14 : Int32) (a18 : Addr) (a23 : Addr) (k25 : ClassId) (h0 : Heap) (n0 : Nat) (v : Option Value) (h : Heap) (L : List Loc) : Prop := v = some (.int (1 : Int32)) ∧ Fr n0 L ∧ h = h0
set_option maxRecDepth 65536 in
set_option maxHeartbeats 40000000 in
theorem rm9_9 (l : Launch) (Z : State) (a0 : Array Value) (hw : HW a0 Z) (ws : List Jvm.Cond) (a1 : Addr) (a2 : Addr) (p6 : Int32) (a11 : Addr) (k13 : ClassId) (p14 : Int32) (a18 : Addr) (a23 : Addr) (k25 : ClassId) (h0 : Heap) (n0 : Nat) (Z0 : n0 ≤ h0.size) (f3 : Fld Z h0 a1 cC0 "article" cC1 (VR a2)) (f5 : Exa Z h0 a2 cC3) (f7 : Sta Z Z.heap "java/lang/String" "COMPACT_STRINGS" "Z" (.int p6)) (f8 : Old Z n0 h0) (f9 : ¬ (p6 = (0 : Int32))) (f10 : Fld Z h0 a2 cC3 "coder" "B" (VI 0)) (f12 : Fld Z h0 a2 cC3 "value" "[B" (VR a11)) (f15 : Arv Z h0 a11 k13 .byte 1 [VI p14] (VI 0)) (f17 : (own_f23_m12 (63 : Int32) p14) < (0 : Int32)) (f19 : Fld Z h0 a1 cC0 "clause" cC1 (VR a18)) (f21 : Exa Z h0 a18 cC3) (f22 : Fld Z h0 a18 cC3 "coder" "B" (VI 0)) (f24 : Fld Z h0 a18 cC3 "value" "[B" (VR a23)) (f26 : Arv Z h0 a23 k25 .byte 0 [] (VI 0)) :
    MetFree l yM17 (head1 (Jvm.Cond.code yM17 prog_105_method_2_code 1 (some .boolean) :: ws) ({ frames := 4, cells := 0, slots := 0, locals := 59 } : Room)) (fun a U => a = #[(.ref a1)] ∧ Z.Warmed39 U.vm ∧ U.heap = h0) (fun _ _ _ _ _ => True) (fun _ U o U' => ∃ v L, o = .returned v ∧ Q9_9 Z a1 a2 p6 a11 k13 p14 a18 a23 k25 h0 n0 v U'.heap L ∧ FrameEnd U o U' L ({ frames := 4, cells := 0, slots := 0, locals := 59 } : Room).cells ({ frames := 4, cells := 0, slots := 0, locals := 59 } : Room).slots) := by
  refine own_enter (n0 := n0) (plainFor_of_name pn6) (fun m => ef9_9 m a1) ?_
  intro p e s m below meth c s₁ hx hby hml hown hnm hret hlk X0 e0 hZ hh N0
  show own_Fin p e below _ s₁ (mkF m 0 #[SR a1] [])
  refine own_go (fun _ k => XS.aloadN X0.here hx rfl (hb hby d9_0) rfl rfl k) ?_
  show own_Fin p e below _ s₁ (mkF m 1 #[SR a1] [VR a1])
  obtain ⟨T4, X4, e4, st4⟩ := getF X0 hx hZ hown (host := "") (Or.inl (WW hw 43)) Via.refl e0 f3 (g := (mkF m 1 #[SR a1] [VR a1])) rfl rfl (hb hby d9_1)
  refine own_go st4 ?_
  show own_Fin p e below _ T4 (mkF m 4 #[SR a1] [VR a2])
  refine own_go (fun _ k => XS.bipush X4.here hx rfl (hb hby d9_4) k) ?_
  show own_Fin p e below _ T4 (mkF m 6 #[SR a1] [VI 63, VR a2])
  obtain ⟨_, T16, L16, X16, hQ16, st16⟩ := own_cV X4 hx hZ hown (WW hw 57) (WW hw 58) (notFace_of_selects (args := #[]) (mvT hZ (WW hw 60))) (WW hw 60) (WW hw 59) (WW hw 12) (WW hw 61) (rm10_2 l Z a0 hw [] a2 (63 : Int32) p6 a11 k13 p14 h0 n0 Z0 f5 f7 f8 f9 f10 f12 f15 (by decide : ¬ ((63 : Int32) < (0 : Int32))) (by decide : ¬ ((255 : Int32) < (63 : Int32)))) e4 f5 hml (g := (mkF m 6 #[SR a1] [VI 63, VR a2])) pd0 (hb hby d9_6) [VI 63] [] (W := 0)
  obtain ⟨rfl, N16q, e16⟩ := hQ16
  have N16 := Fr.app N0 N16q
  refine own_go st16 ?_
  show own_Fin p e below _ T16 (mkF m 9 #[SR a1] [VI (own_f23_m12 (63 : Int32) p14)])
  refine own_go (fun _ k => XS.ifNo X16.here hx rfl (hb hby d9_9) rfl ((if0 _ _).trans (tlt f17).2.1) (XS.aloadN X16.here hx rfl (hb hby d9_12) rfl rfl k)) ?_
  show own_Fin p e below _ T16 (mkF m 13 #[SR a1] [VR a1])
  obtain ⟨T20, X20, e20, st20⟩ := getF X16 hx hZ hown (host := "") (Or.inl (WW hw 45)) Via.refl e16 f19 (g := (mkF m 13 #[SR a1] [VR a1])) rfl rfl (hb hby d9_13)
  refine own_go st20 ?_
  show own_Fin p e below _ T20 (mkF m 16 #[SR a1] [VR a18])
  refine own_go (fun _ k => XS.bipush X20.here hx rfl (hb hby d9_16) k) ?_
  show own_Fin p e below _ T20 (mkF m 18 #[SR a1] [VI 63, VR a18])
  obtain ⟨_, T27, L27, X27, hQ27, st27⟩ := own_cV X20 hx hZ hown (WW hw 57) (WW hw 58) (notFace_of_selects (args := #[]) (mvT hZ (WW hw 60))) (WW hw 60) (WW hw 59) (WW hw 12) (WW hw 61) (rm10_1 l Z a0 hw [] a18 (63 : Int32) p6 a23 k25 h0 n0 Z0 f21 f7 f8 f9 f22 f24 f26 (by decide : ¬ ((63 : Int32) < (0 : Int32))) (by decide : ¬ ((255 : Int32) < (63 : Int32)))) e20 f21 hml (g := (mkF m 18 #[SR a1] [VI 63, VR a18])) pd0 (hb hby d9_18) [VI 63] [] (W := 0)
  obtain ⟨rfl, N27q, e27⟩ := hQ27
  have N27 := Fr.app N16 N27q
  refine own_go st27 ?_
  show own_Fin p e below _ T27 (mkF m 21 #[SR a1] [VI (-1)])
  refine own_go (fun _ k => XS.ifNo X27.here hx rfl (hb hby d9_21) rfl ((if0 _ _).trans (tlt (by decide : (-1 : Int32) < (0 : Int32))).2.1) (XS.iconst X27.here hx rfl (hb hby d9_24) (XS.goto X27.here hx rfl (pc0 := 25) (pc' := 29) rfl (hb hby d9_25) (by decide) (by decide) k))) ?_
  show own_Fin p e below _ T27 (mkF m 29 #[SR a1] [VI 1])
  obtain ⟨fs, hr, hrun, hended, hW, hsame⟩ := X27.leave (v := some (.int (1 : Int32))) (fun h => by rw [hret] at h; cases h)
  refine own_end (retN X27 hx (t := .boolean) hret (by simp) (hb hby d9_29) hr) hrun hended ⟨_, _, rfl, ?_, ⟨_, rfl⟩, hW, hsame.mono (by decide) (by decide)⟩
  show Q9_9 Z a1 a2 p6 a11 k13 p14 a18 a23 k25 h0 n0 _ T27.heap _
  rw [e27]
  exact ⟨rfl, N27, rfl⟩
theorem ef9_10 (m : MethodId) (a1 : Addr) : entryFrame m #[(.ref a1)] 1 = mkF m 0 #[SR a1] [] := by first | (simp [entryFrame, mkF, argsToLocals, Value.category]; done) | rfl
def Q9_10 (Z : State) (a1 : Addr) (a2 : Addr) (p6 : Int32) (a11 : Addr) (k13 : ClassId) (p14 : Int32) (a18 : Addr) (a23 : Addr) (k25 : ClassId) (p26 : Int32) (h0 : Heap) (n0 : Nat) (v : Option Value) (h : Heap) (L : List Loc) : Prop := v = some (.int (0 : Int32)) ∧ Fr n0 L ∧ h = h0
set_option maxRecDepth 65536 in
set_option maxHeartbeats 40000000 in
theorem rm9_10 (l : Launch) (Z : State) (a0 : Array Value) (hw : HW a0 Z) (ws : List Jvm.Cond) (a1 : Addr) (a2 : Addr) (p6 : Int32) (a11 : Addr) (k13 : ClassId) (p14 : Int32) (a18 : Addr) (a23 : Addr) (k25 : ClassId) (p26 : Int32) (h0 : Heap) (n0 : Nat) (Z0 : n0 ≤ h0.size) (f3 : Fld Z h0 a1 cC0 "article" cC1 (VR a2)) (f5 : Exa Z h0 a2 cC3) (f7 : Sta Z Z.heap "java/lang/String" "COMPACT_STRINGS" "Z" (.int p6)) (f8 : Old Z n0 h0) (f9 : ¬ (p6 = (0 : Int32))) (f10 : Fld Z h0 a2 cC3 "coder" "B" (VI 0)) (f12 : Fld Z h0 a2 cC3 "value" "[B" (VR a11)) (f15 : Arv Z h0 a11 k13 .byte 1 [VI p14] (VI 0)) (f17 : (own_f23_m12 (63 : Int32) p14) < (0 : Int32)) (f19 : Fld Z h0 a1 cC0 "clause" cC1 (VR a18)) (f21 : Exa Z h0 a18 cC3) (f22 : Fld Z h0 a18 cC3 "coder" "B" (VI 0)) (f24 : Fld Z h0 a18 cC3 "value" "[B" (VR a23)) (f27 : Arv Z h0 a23 k25 .byte 1 [VI p26] (VI 0)) (f29 : ¬ ((own_f23_m12 (63 : Int32) p26) < (0 : Int32))) :
    MetFree l yM17 (head1 (Jvm.Cond.code yM17 prog_105_method_2_code 1 (some .boolean) :: ws) ({ frames := 4, cells := 0, slots := 0, locals := 59 } : Room)) (fun a U => a = #[(.ref a1)] ∧ Z.Warmed39 U.vm ∧ U.heap = h0) (fun _ _ _ _ _ => True) (fun _ U o U' => ∃ v L, o = .returned v ∧ Q9_10 Z a1 a2 p6 a11 k13 p14 a18 a23 k25 p26 h0 n0 v U'.heap L ∧ FrameEnd U o U' L ({ frames := 4, cells := 0, slots := 0, locals := 59 } : Room).cells ({ frames := 4, cells := 0, slots := 0, locals := 59 } : Room).slots) := by
  refine own_enter (n0 := n0) (plainFor_of_name pn6) (fun m => ef9_10 m a1) ?_
  intro p e s m below meth c s₁ hx hby hml hown hnm hret hlk X0 e0 hZ hh N0
  show own_Fin p e below _ s₁ (mkF m 0 #[SR a1] [])
  refine own_go (fun _ k => XS.aloadN X0.here hx rfl (hb hby d9_0) rfl rfl k) ?_
  show own_Fin p e below _ s₁ (mkF m 1 #[SR a1] [VR a1])
  obtain ⟨T4, X4, e4, st4⟩ := getF X0 hx hZ hown (host := "") (Or.inl (WW hw 43)) Via.refl e0 f3 (g := (mkF m 1 #[SR a1] [VR a1])) rfl rfl (hb hby d9_1)
  refine own_go st4 ?_
  show own_Fin p e below _ T4 (mkF m 4 #[SR a1] [VR a2])
  refine own_go (fun _ k => XS.bipush X4.here hx rfl (hb hby d9_4) k) ?_
  show own_Fin p e below _ T4 (mkF m 6 #[SR a1] [VI 63, VR a2])
  obtain ⟨_, T16, L16, X16, hQ16, st16⟩ := own_cV X4 hx hZ hown (WW hw 57) (WW hw 58) (notFace_of_selects (args := #[]) (mvT hZ (WW hw 60))) (WW hw 60) (WW hw 59) (WW hw 12) (WW hw 61) (rm10_2 l Z a0 hw [] a2 (63 : Int32) p6 a11 k13 p14 h0 n0 Z0 f5 f7 f8 f9 f10 f12 f15 (by decide : ¬ ((63 : Int32) < (0 : Int32))) (by decide : ¬ ((255 : Int32) < (63 : Int32)))) e4 f5 hml (g := (mkF m 6 #[SR a1] [VI 63, VR a2])) pd0 (hb hby d9_6) [VI 63] [] (W := 0)
  obtain ⟨rfl, N16q, e16⟩ := hQ16
  have N16 := Fr.app N0 N16q
  refine own_go st16 ?_
  show own_Fin p e below _ T16 (mkF m 9 #[SR a1] [VI (own_f23_m12 (63 : Int32) p14)])
  refine own_go (fun _ k => XS.ifNo X16.here hx rfl (hb hby d9_9) rfl ((if0 _ _).trans (tlt f17).2.1) (XS.aloadN X16.here hx rfl (hb hby d9_12) rfl rfl k)) ?_
  show own_Fin p e below _ T16 (mkF m 13 #[SR a1] [VR a1])
  obtain ⟨T20, X20, e20, st20⟩ := getF X16 hx hZ hown (host := "") (Or.inl (WW hw 45)) Via.refl e16 f19 (g := (mkF m 13 #[SR a1] [VR a1])) rfl rfl (hb hby d9_13)
  refine own_go st20 ?_
  show own_Fin p e below _ T20 (mkF m 16 #[SR a1] [VR a18])
  refine own_go (fun _ k => XS.bipush X20.here hx rfl (hb hby d9_16) k) ?_
  show own_Fin p e below _ T20 (mkF m 18 #[SR a1] [VI 63, VR a18])
  obtain ⟨_, T28, L28, X28, hQ28, st28⟩ := own_cV X20 hx hZ hown (WW hw 57) (WW hw 58) (notFace_of_selects (args := #[]) (mvT hZ (WW hw 60))) (WW hw 60) (WW hw 59) (WW hw 12) (WW hw 61) (rm10_2 l Z a0 hw [] a18 (63 : Int32) p6 a23 k25 p26 h0 n0 Z0 f21 f7 f8 f9 f22 f24 f27 (by decide : ¬ ((63 : Int32) < (0 : Int32))) (by decide : ¬ ((255 : Int32) < (63 : Int32)))) e20 f21 hml (g := (mkF m 18 #[SR a1] [VI 63, VR a18])) pd0 (hb hby d9_18) [VI 63] [] (W := 0)
  obtain ⟨rfl, N28q, e28⟩ := hQ28
  have N28 := Fr.app N16 N28q
  refine own_go st28 ?_
  show own_Fin p e below _ T28 (mkF m 21 #[SR a1] [VI (own_f23_m12 (63 : Int32) p26)])
  refine own_go (fun _ k => XS.ifYes X28.here hx rfl (pc0 := 21) (pc' := 28) rfl (hb hby d9_21) rfl ((if0 _ _).trans (flt f29).2.1) (by decide) (by decide) (XS.iconst X28.here hx rfl (hb hby d9_28) k)) ?_
  show own_Fin p e below _ T28 (mkF m 29 #[SR a1] [VI 0])
  obtain ⟨fs, hr, hrun, hended, hW, hsame⟩ := X28.leave (v := some (.int (0 : Int32))) (fun h => by rw [hret] at h; cases h)
  refine own_end (retN X28 hx (t := .boolean) hret (by simp) (hb hby d9_29) hr) hrun hended ⟨_, _, rfl, ?_, ⟨_, rfl⟩, hW, hsame.mono (by decide) (by decide)⟩
  show Q9_10 Z a1 a2 p6 a11 k13 p14 a18 a23 k25 p26 h0 n0 _ T28.heap _
  rw [e28]
  exact ⟨rfl, N28, rfl⟩
theorem ef9_11 (m : MethodId) (a1 : Addr) : entryFrame m #[(.ref a1)] 1 = mkF m 0 #[SR a1] [] := by first | (simp [entryFrame, mkF, argsToLocals, Value.category]; done) | rfl
def Q9_11 (Z : State) (a1 : Addr) (a2 : Addr) (p6 : Int32) (a11 : Addr) (k13 : ClassId) (p14 : Int32) (a18 : Addr) (a23 : Addr) (k25 : ClassId) (p26 : Int32) (h0 : Heap) (n0 : Nat) (v : Option Value) (h : Heap) (L : List Loc) : Prop := v = some (.int (1 : Int32)) ∧ Fr n0 L ∧ h = h0
set_option maxRecDepth 65536 in
set_option maxHeartbeats 40000000 in
theorem rm9_11 (l : Launch) (Z : State) (a0 : Array Value) (hw : HW a0 Z) (ws : List Jvm.Cond) (a1 : Addr) (a2 : Addr) (p6 : Int32) (a11 : Addr) (k13 : ClassId) (p14 : Int32) (a18 : Addr) (a23 : Addr) (k25 : ClassId) (p26 : Int32) (h0 : Heap) (n0 : Nat) (Z0 : n0 ≤ h0.size) (f3 : Fld Z h0 a1 cC0 "article" cC1 (VR a2)) (f5 : Exa Z h0 a2 cC3) (f7 : Sta Z Z.heap "java/lang/String" "COMPACT_STRINGS" "Z" (.int p6)) (f8 : Old Z n0 h0) (f9 : ¬ (p6 = (0 : Int32))) (f10 : Fld Z h0 a2 cC3 "coder" "B" (VI 0)) (f12 : Fld Z h0 a2 cC3 "value" "[B" (VR a11)) (f15 : Arv Z h0 a11 k13 .byte 1 [VI p14] (VI 0)) (f17 : (own_f23_m12 (63 : Int32) p14) < (0 : Int32)) (f19 : Fld Z h0 a1 cC0 "clause" cC1 (VR a18)) (f21 : Exa Z h0 a18 cC3) (f22 : Fld Z h0 a18 cC3 "coder" "B" (VI 0)) (f24 : Fld Z h0 a18 cC3 "value" "[B" (VR a23)) (f27 : Arv Z h0 a23 k25 .byte 1 [VI p26] (VI 0)) (f29 : (own_f23_m12 (63 : Int32) p26) < (0 : Int32)) :
    MetFree l yM17 (head1 (Jvm.Cond.code yM17 prog_105_method_2_code 1 (some .boolean) :: ws) ({ frames := 4, cells := 0, slots := 0, locals := 59 } : Room)) (fun a U => a = #[(.ref a1)] ∧ Z.Warmed39 U.vm ∧ U.heap = h0) (fun _ _ _ _ _ => True) (fun _ U o U' => ∃ v L, o = .returned v ∧ Q9_11 Z a1 a2 p6 a11 k13 p14 a18 a23 k25 p26 h0 n0 v U'.heap L ∧ FrameEnd U o U' L ({ frames := 4, cells := 0, slots := 0, locals := 59 } : Room).cells ({ frames := 4, cells := 0, slots := 0, locals := 59 } : Room).slots) := by
  refine own_enter (n0 := n0) (plainFor_of_name pn6) (fun m => ef9_11 m a1) ?_
  intro p e s m below meth c s₁ hx hby hml hown hnm hret hlk X0 e0 hZ hh N0
  show own_Fin p e below _ s₁ (mkF m 0 #[SR a1] [])
  refine own_go (fun _ k => XS.aloadN X0.here hx rfl (hb hby d9_0) rfl rfl k) ?_
  show own_Fin p e below _ s₁ (mkF m 1 #[SR a1] [VR a1])
  obtain ⟨T4, X4, e4, st4⟩ := getF X0 hx hZ hown (host := "") (Or.inl (WW hw 43)) Via.refl e0 f3 (g := (mkF m 1 #[SR a1] [VR a1])) rfl rfl (hb hby d9_1)
  refine own_go st4 ?_
  show own_Fin p e below _ T4 (mkF m 4 #[SR a1] [VR a2])
  refine own_go (fun _ k => XS.bipush X4.here hx rfl (hb hby d9_4) k) ?_
  show own_Fin p e below _ T4 (mkF m 6 #[SR a1] [VI 63, VR a2])
  obtain ⟨_, T16, L16, X16, hQ16, st16⟩ := own_cV X4 hx hZ hown (WW hw 57) (WW hw 58) (notFace_of_selects (args := #[]) (mvT hZ (WW hw 60))) (WW hw 60) (WW hw 59) (WW hw 12) (WW hw 61) (rm10_2 l Z a0 hw [] a2 (63 : Int32) p6 a11 k13 p14 h0 n0 Z0 f5 f7 f8 f9 f10 f12 f15 (by decide : ¬ ((63 : Int32) < (0 : Int32))) (by decide : ¬ ((255 : Int32) < (63 : Int32)))) e4 f5 hml (g := (mkF m 6 #[SR a1] [VI 63, VR a2])) pd0 (hb hby d9_6) [VI 63] [] (W := 0)
  obtain ⟨rfl, N16q, e16⟩ := hQ16
  have N16 := Fr.app N0 N16q
  refine own_go st16 ?_
  show own_Fin p e below _ T16 (mkF m 9 #[SR a1] [VI (own_f23_m12 (63 : Int32) p14)])
  refine own_go (fun _ k => XS.ifNo X16.here hx rfl (hb hby d9_9) rfl ((if0 _ _).trans (tlt f17).2.1) (XS.aloadN X16.here hx rfl (hb hby d9_12) rfl rfl k)) ?_
  show own_Fin p e below _ T16 (mkF m 13 #[SR a1] [VR a1])
  obtain ⟨T20, X20, e20, st20⟩ := getF X16 hx hZ hown (host := "") (Or.inl (WW hw 45)) Via.refl e16 f19 (g := (mkF m 13 #[SR a1] [VR a1])) rfl rfl (hb hby d9_13)
  refine own_go st20 ?_
  show own_Fin p e below _ T20 (mkF m 16 #[SR a1] [VR a18])
  refine own_go (fun _ k => XS.bipush X20.here hx rfl (hb hby d9_16) k) ?_
  show own_Fin p e below _ T20 (mkF m 18 #[SR a1] [VI 63, VR a18])
  obtain ⟨_, T28, L28, X28, hQ28, st28⟩ := own_cV X20 hx hZ hown (WW hw 57) (WW hw 58) (notFace_of_selects (args := #[]) (mvT hZ (WW hw 60))) (WW hw 60) (WW hw 59) (WW hw 12) (WW hw 61) (rm10_2 l Z a0 hw [] a18 (63 : Int32) p6 a23 k25 p26 h0 n0 Z0 f21 f7 f8 f9 f22 f24 f27 (by decide : ¬ ((63 : Int32) < (0 : Int32))) (by decide : ¬ ((255 : Int32) < (63 : Int32)))) e20 f21 hml (g := (mkF m 18 #[SR a1] [VI 63, VR a18])) pd0 (hb hby d9_18) [VI 63] [] (W := 0)
  obtain ⟨rfl, N28q, e28⟩ := hQ28
  have N28 := Fr.app N16 N28q
  refine own_go st28 ?_
  show own_Fin p e below _ T28 (mkF m 21 #[SR a1] [VI (own_f23_m12 (63 : Int32) p26)])
  refine own_go (fun _ k => XS.ifNo X28.here hx rfl (hb hby d9_21) rfl ((if0 _ _).trans (tlt f29).2.1) (XS.iconst X28.here hx rfl (hb hby d9_24) (XS.goto X28.here hx rfl (pc0 := 25) (pc' := 29) rfl (hb hby d9_25) (by decide) (by decide) k))) ?_
  show own_Fin p e below _ T28 (mkF m 29 #[SR a1] [VI 1])
  obtain ⟨fs, hr, hrun, hended, hW, hsame⟩ := X28.leave (v := some (.int (1 : Int32))) (fun h => by rw [hret] at h; cases h)
  refine own_end (retN X28 hx (t := .boolean) hret (by simp) (hb hby d9_29) hr) hrun hended ⟨_, _, rfl, ?_, ⟨_, rfl⟩, hW, hsame.mono (by decide) (by decide)⟩
  show Q9_11 Z a1 a2 p6 a11 k13 p14 a18 a23 k25 p26 h0 n0 _ T28.heap _
  rw [e28]
  exact ⟨rfl, N28, rfl⟩
theorem ef9_12 (m : MethodId) (a1 : Addr) : entryFrame m #[(.ref a1)] 1 = mkF m 0 #[SR a1] [] := by first | (simp [entryFrame, mkF, argsToLocals, Value.category]; done) | rfl
def Q9_12 (Z : State) (a1 : Addr) (a2 : Addr) (p6 : Int32) (a11 : Addr) (k13 : ClassId) (p14 : Int32) (a18 : Addr) (a23 : Addr) (k25 : ClassId) (p26 : Int32) (p27 : Int32) (h0 : Heap) (n0 : Nat) (v : Option Value) (h : Heap) (L : List Loc) : Prop := v = some (.int (0 : Int32)) ∧ Fr n0 L ∧ h = h0
set_option maxRecDepth 65536 in
set_option maxHeartbeats 40000000 in
theorem rm9_12 (l : Launch) (Z : State) (a0 : Array Value) (hw : HW a0 Z) (ws : List Jvm.Cond) (a1 : Addr) (a2 : Addr) (p6 : Int32) (a11 : Addr) (k13 : ClassId) (p14 : Int32) (a18 : Addr) (a23 : Addr) (k25 : ClassId) (p26 : Int32) (p27 : Int32) (h0 : Heap) (n0 : Nat) (Z0 : n0 ≤ h0.size) (f3 : Fld Z h0 a1 cC0 "article" cC1 (VR a2)) (f5 : Exa Z h0 a2 cC3) (f7 : Sta Z Z.heap "java/lang/String" "COMPACT_STRINGS" "Z" (.int p6)) (f8 : Old Z n0 h0) (f9 : ¬ (p6 = (0 : Int32))) (f10 : Fld Z h0 a2 cC3 "coder" "B" (VI 0)) (f12 : Fld Z h0 a2 cC3 "value" "[B" (VR a11)) (f15 : Arv Z h0 a11 k13 .byte 1 [VI p14] (VI 0)) (f17 : (own_f23_m12 (63 : Int32) p14) < (0 : Int32)) (f19 : Fld Z h0 a1 cC0 "clause" cC1 (VR a18)) (f21 : Exa Z h0 a18 cC3) (f22 : Fld Z h0 a18 cC3 "coder" "B" (VI 0)) (f24 : Fld Z h0 a18 cC3 "value" "[B" (VR a23)) (f28 : Arv Z h0 a23 k25 .byte 2 [VI p26, VI p27] (VI 0)) (f30 : ¬ ((own_f23_m17 (63 : Int32) p26 p27) < (0 : Int32))) :
    MetFree l yM17 (head1 (Jvm.Cond.code yM17 prog_105_method_2_code 1 (some .boolean) :: ws) ({ frames := 4, cells := 0, slots := 0, locals := 59 } : Room)) (fun a U => a = #[(.ref a1)] ∧ Z.Warmed39 U.vm ∧ U.heap = h0) (fun _ _ _ _ _ => True) (fun _ U o U' => ∃ v L, o = .returned v ∧ Q9_12 Z a1 a2 p6 a11 k13 p14 a18 a23 k25 p26 p27 h0 n0 v U'.heap L ∧ FrameEnd U o U' L ({ frames := 4, cells := 0, slots := 0, locals := 59 } : Room).cells ({ frames := 4, cells := 0, slots := 0, locals := 59 } : Room).slots) := by
  refine own_enter (n0 := n0) (plainFor_of_name pn6) (fun m => ef9_12 m a1) ?_
  intro p e s m below meth c s₁ hx hby hml hown hnm hret hlk X0 e0 hZ hh N0
  show own_Fin p e below _ s₁ (mkF m 0 #[SR a1] [])
  refine own_go (fun _ k => XS.aloadN X0.here hx rfl (hb hby d9_0) rfl rfl k) ?_
  show own_Fin p e below _ s₁ (mkF m 1 #[SR a1] [VR a1])
  obtain ⟨T4, X4, e4, st4⟩ := getF X0 hx hZ hown (host := "") (Or.inl (WW hw 43)) Via.refl e0 f3 (g := (mkF m 1 #[SR a1] [VR a1])) rfl rfl (hb hby d9_1)
  refine own_go st4 ?_
  show own_Fin p e below _ T4 (mkF m 4 #[SR a1] [VR a2])
  refine own_go (fun _ k => XS.bipush X4.here hx rfl (hb hby d9_4) k) ?_
  show own_Fin p e below _ T4 (mkF m 6 #[SR a1] [VI 63, VR a2])
  obtain ⟨_, T16, L16, X16, hQ16, st16⟩ := own_cV X4 hx hZ hown (WW hw 57) (WW hw 58) (notFace_of_selects (args := #[]) (mvT hZ (WW hw 60))) (WW hw 60) (WW hw 59) (WW hw 12) (WW hw 61) (rm10_2 l Z a0 hw [] a2 (63 : Int32) p6 a11 k13 p14 h0 n0 Z0 f5 f7 f8 f9 f10 f12 f15 (by decide : ¬ ((63 : Int32) < (0 : Int32))) (by decide : ¬ ((255 : Int32) < (63 : Int32)))) e4 f5 hml (g := (mkF m 6 #[SR a1] [VI 63, VR a2])) pd0 (hb hby d9_6) [VI 63] [] (W := 0)
  obtain ⟨rfl, N16q, e16⟩ := hQ16
  have N16 := Fr.app N0 N16q
  refine own_go st16 ?_
  show own_Fin p e below _ T16 (mkF m 9 #[SR a1] [VI (own_f23_m12 (63 : Int32) p14)])
  refine own_go (fun _ k => XS.ifNo X16.here hx rfl (hb hby d9_9) rfl ((if0 _ _).trans (tlt f17).2.1) (XS.aloadN X16.here hx rfl (hb hby d9_12) rfl rfl k)) ?_
  show own_Fin p e below _ T16 (mkF m 13 #[SR a1] [VR a1])
  obtain ⟨T20, X20, e20, st20⟩ := getF X16 hx hZ hown (host := "") (Or.inl (WW hw 45)) Via.refl e16 f19 (g := (mkF m 13 #[SR a1] [VR a1])) rfl rfl (hb hby d9_13)
  refine own_go st20 ?_
  show own_Fin p e below _ T20 (mkF m 16 #[SR a1] [VR a18])
  refine own_go (fun _ k => XS.bipush X20.here hx rfl (hb hby d9_16) k) ?_
  show own_Fin p e below _ T20 (mkF m 18 #[SR a1] [VI 63, VR a18])
  obtain ⟨_, T29, L29, X29, hQ29, st29⟩ := own_cV X20 hx hZ hown (WW hw 57) (WW hw 58) (notFace_of_selects (args := #[]) (mvT hZ (WW hw 60))) (WW hw 60) (WW hw 59) (WW hw 12) (WW hw 61) (rm10_3 l Z a0 hw [] a18 (63 : Int32) p6 a23 k25 p26 p27 h0 n0 Z0 f21 f7 f8 f9 f22 f24 f28 (by decide : ¬ ((63 : Int32) < (0 : Int32))) (by decide : ¬ ((255 : Int32) < (63 : Int32)))) e20 f21 hml (g := (mkF m 18 #[SR a1] [VI 63, VR a18])) pd0 (hb hby d9_18) [VI 63] [] (W := 0)
  obtain ⟨rfl, N29q, e29⟩ := hQ29
  have N29 := Fr.app N16 N29q
  refine own_go st29 ?_
  show own_Fin p e below _ T29 (mkF m 21 #[SR a1] [VI (own_f23_m17 (63 : Int32) p26 p27)])
  refine own_go (fun _ k => XS.ifYes X29.here hx rfl (pc0 := 21) (pc' := 28) rfl (hb hby d9_21) rfl ((if0 _ _).trans (flt f30).2.1) (by decide) (by decide) (XS.iconst X29.here hx rfl (hb hby d9_28) k)) ?_
  show own_Fin p e below _ T29 (mkF m 29 #[SR a1] [VI 0])
  obtain ⟨fs, hr, hrun, hended, hW, hsame⟩ := X29.leave (v := some (.int (0 : Int32))) (fun h => by rw [hret] at h; cases h)
  refine own_end (retN X29 hx (t := .boolean) hret (by simp) (hb hby d9_29) hr) hrun hended ⟨_, _, rfl, ?_, ⟨_, rfl⟩, hW, hsame.mono (by decide) (by decide)⟩
  show Q9_12 Z a1 a2 p6 a11 k13 p14 a18 a23 k25 p26 p27 h0 n0 _ T29.heap _
  rw [e29]
  exact ⟨rfl, N29, rfl⟩
theorem ef9_13 (m : MethodId) (a1 : Addr) : entryFrame m #[(.ref a1)] 1 = mkF m 0 #[SR a1] [] := by first | (simp [entryFrame, mkF, argsToLocals, Value.category]; done) | rfl
def Q9_13 (Z : State) (a1 : Addr) (a2 : Addr) (p6 : Int32) (a11 : Addr) (k13 : ClassId) (p14 : Int32) (a18 : Addr) (a23 : Addr) (k25 : ClassId) (p26 : Int32) (p27 : Int32) (h0 : Heap) (n0 : Nat) (v : Option Value) (h : Heap) (L : List Loc) : Prop := v = some (.int (1 : Int32)) ∧ Fr n0 L ∧ h = h0
set_option maxRecDepth 65536 in
set_option maxHeartbeats 40000000 in
theorem rm9_13 (l : Launch) (Z : State) (a0 : Array Value) (hw : HW a0 Z) (ws : List Jvm.Cond) (a1 : Addr) (a2 : Addr) (p6 : Int32) (a11 : Addr) (k13 : ClassId) (p14 : Int32) (a18 : Addr) (a23 : Addr) (k25 : ClassId) (p26 : Int32) (p27 : Int32) (h0 : Heap) (n0 : Nat) (Z0 : n0 ≤ h0.size) (f3 : Fld Z h0 a1 cC0 "article" cC1 (VR a2)) (f5 : Exa Z h0 a2 cC3) (f7 : Sta Z Z.heap "java/lang/String" "COMPACT_STRINGS" "Z" (.int p6)) (f8 : Old Z n0 h0) (f9 : ¬ (p6 = (0 : Int32))) (f10 : Fld Z h0 a2 cC3 "coder" "B" (VI 0)) (f12 : Fld Z h0 a2 cC3 "value" "[B" (VR a11)) (f15 : Arv Z h0 a11 k13 .byte 1 [VI p14] (VI 0)) (f17 : (own_f23_m12 (63 : Int32) p14) < (0 : Int32)) (f19 : Fld Z h0 a1 cC0 "clause" cC1 (VR a18)) (f21 : Exa Z h0 a18 cC3) (f22 : Fld Z h0 a18 cC3 "coder" "B" (VI 0)) (f24 : Fld Z h0 a18 cC3 "value" "[B" (VR a23)) (f28 : Arv Z h0 a23 k25 .byte 2 [VI p26, VI p27] (VI 0)) (f30 : (own_f23_m17 (63 : Int32) p26 p27) < (0 : Int32)) :
    MetFree l yM17 (head1 (Jvm.Cond.code yM17 prog_105_method_2_code 1 (some .boolean) :: ws) ({ frames := 4, cells := 0, slots := 0, locals := 59 } : Room)) (fun a U => a = #[(.ref a1)] ∧ Z.Warmed39 U.vm ∧ U.heap = h0) (fun _ _ _ _ _ => True) (fun _ U o U' => ∃ v L, o = .returned v ∧ Q9_13 Z a1 a2 p6 a11 k13 p14 a18 a23 k25 p26 p27 h0 n0 v U'.heap L ∧ FrameEnd U o U' L ({ frames := 4, cells := 0, slots := 0, locals := 59 } : Room).cells ({ frames := 4, cells := 0, slots := 0, locals := 59 } : Room).slots) := by
  refine own_enter (n0 := n0) (plainFor_of_name pn6) (fun m => ef9_13 m a1) ?_
  intro p e s m below meth c s₁ hx hby hml hown hnm hret hlk X0 e0 hZ hh N0
  show own_Fin p e below _ s₁ (mkF m 0 #[SR a1] [])
  refine own_go (fun _ k => XS.aloadN X0.here hx rfl (hb hby d9_0) rfl rfl k) ?_
  show own_Fin p e below _ s₁ (mkF m 1 #[SR a1] [VR a1])
  obtain ⟨T4, X4, e4, st4⟩ := getF X0 hx hZ hown (host := "") (Or.inl (WW hw 43)) Via.refl e0 f3 (g := (mkF m 1 #[SR a1] [VR a1])) rfl rfl (hb hby d9_1)
  refine own_go st4 ?_
  show own_Fin p e below _ T4 (mkF m 4 #[SR a1] [VR a2])
  refine own_go (fun _ k => XS.bipush X4.here hx rfl (hb hby d9_4) k) ?_
  show own_Fin p e below _ T4 (mkF m 6 #[SR a1] [VI 63, VR a2])
  obtain ⟨_, T16, L16, X16, hQ16, st16⟩ := own_cV X4 hx hZ hown (WW hw 57) (WW hw 58) (notFace_of_selects (args := #[]) (mvT hZ (WW hw 60))) (WW hw 60) (WW hw 59) (WW hw 12) (WW hw 61) (rm10_2 l Z a0 hw [] a2 (63 : Int32) p6 a11 k13 p14 h0 n0 Z0 f5 f7 f8 f9 f10 f12 f15 (by decide : ¬ ((63 : Int32) < (0 : Int32))) (by decide : ¬ ((255 : Int32) < (63 : Int32)))) e4 f5 hml (g := (mkF m 6 #[SR a1] [VI 63, VR a2])) pd0 (hb hby d9_6) [VI 63] [] (W := 0)
  obtain ⟨rfl, N16q, e16⟩ := hQ16
  have N16 := Fr.app N0 N16q
  refine own_go st16 ?_
  show own_Fin p e below _ T16 (mkF m 9 #[SR a1] [VI (own_f23_m12 (63 : Int32) p14)])
  refine own_go (fun _ k => XS.ifNo X16.here hx rfl (hb hby d9_9) rfl ((if0 _ _).trans (tlt f17).2.1) (XS.aloadN X16.here hx rfl (hb hby d9_12) rfl rfl k)) ?_
  show own_Fin p e below _ T16 (mkF m 13 #[SR a1] [VR a1])
  obtain ⟨T20, X20, e20, st20⟩ := getF X16 hx hZ hown (host := "") (Or.inl (WW hw 45)) Via.refl e16 f19 (g := (mkF m 13 #[SR a1] [VR a1])) rfl rfl (hb hby d9_13)
  refine own_go st20 ?_
  show own_Fin p e below _ T20 (mkF m 16 #[SR a1] [VR a18])
  refine own_go (fun _ k => XS.bipush X20.here hx rfl (hb hby d9_16) k) ?_
  show own_Fin p e below _ T20 (mkF m 18 #[SR a1] [VI 63, VR a18])
  obtain ⟨_, T29, L29, X29, hQ29, st29⟩ := own_cV X20 hx hZ hown (WW hw 57) (WW hw 58) (notFace_of_selects (args := #[]) (mvT hZ (WW hw 60))) (WW hw 60) (WW hw 59) (WW hw 12) (WW hw 61) (rm10_3 l Z a0 hw [] a18 (63 : Int32) p6 a23 k25 p26 p27 h0 n0 Z0 f21 f7 f8 f9 f22 f24 f28 (by decide : ¬ ((63 : Int32) < (0 : Int32))) (by decide : ¬ ((255 : Int32) < (63 : Int32)))) e20 f21 hml (g := (mkF m 18 #[SR a1] [VI 63, VR a18])) pd0 (hb hby d9_18) [VI 63] [] (W := 0)
  obtain ⟨rfl, N29q, e29⟩ := hQ29
  have N29 := Fr.app N16 N29q
  refine own_go st29 ?_
  show own_Fin p e below _ T29 (mkF m 21 #[SR a1] [VI (own_f23_m17 (63 : Int32) p26 p27)])
  refine own_go (fun _ k => XS.ifNo X29.here hx rfl (hb hby d9_21) rfl ((if0 _ _).trans (tlt f30).2.1) (XS.iconst X29.here hx rfl (hb hby d9_24) (XS.goto X29.here hx rfl (pc0 := 25) (pc' := 29) rfl (hb hby d9_25) (by decide) (by decide) k))) ?_
  show own_Fin p e below _ T29 (mkF m 29 #[SR a1] [VI 1])
  obtain ⟨fs, hr, hrun, hended, hW, hsame⟩ := X29.leave (v := some (.int (1 : Int32))) (fun h => by rw [hret] at h; cases h)
  refine own_end (retN X29 hx (t := .boolean) hret (by simp) (hb hby d9_29) hr) hrun hended ⟨_, _, rfl, ?_, ⟨_, rfl⟩, hW, hsame.mono (by decide) (by decide)⟩
  show Q9_13 Z a1 a2 p6 a11 k13 p14 a18 a23 k25 p26 p27 h0 n0 _ T29.heap _
  rw [e29]
  exact ⟨rfl, N29, rfl⟩
theorem ef9_14 (m : MethodId) (a1 : Addr) : entryFrame m #[(.ref a1)] 1 = mkF m 0 #[SR a1] [] := by first | (simp [entryFrame, mkF, argsToLocals, Value.category]; done) | rfl
def Q9_14 (Z : State) (a1 : Addr) (a2 : Addr) (p6 : Int32) (a11 : Addr) (k13 : ClassId) (p14 : Int32) (a18 : Addr) (a23 : Addr) (k25 : ClassId) (p26 : Int32) (p27 : Int32) (p28 : Int32) (h0 : Heap) (n0 : Nat) (v : Option Value) (h : Heap) (L : List Loc) : Prop := v = some (.int (0 : Int32)) ∧ Fr n0 L ∧ h = h0
set_option maxRecDepth 65536 in
set_option maxHeartbeats 40000000 in
theorem rm9_14 (l : Launch) (Z : State) (a0 : Array Value) (hw : HW a0 Z) (ws : List Jvm.Cond) (a1 : Addr) (a2 : Addr) (p6 : Int32) (a11 : Addr) (k13 : ClassId) (p14 : Int32) (a18 : Addr) (a23 : Addr) (k25 : ClassId) (p26 : Int32) (p27 : Int32) (p28 : Int32) (h0 : Heap) (n0 : Nat) (Z0 : n0 ≤ h0.size) (f3 : Fld Z h0 a1 cC0 "article" cC1 (VR a2)) (f5 : Exa Z h0 a2 cC3) (f7 : Sta Z Z.heap "java/lang/String" "COMPACT_STRINGS" "Z" (.int p6)) (f8 : Old Z n0 h0) (f9 : ¬ (p6 = (0 : Int32))) (f10 : Fld Z h0 a2 cC3 "coder" "B" (VI 0)) (f12 : Fld Z h0 a2 cC3 "value" "[B" (VR a11)) (f15 : Arv Z h0 a11 k13 .byte 1 [VI p14] (VI 0)) (f17 : (own_f23_m12 (63 : Int32) p14) < (0 : Int32)) (f19 : Fld Z h0 a1 cC0 "clause" cC1 (VR a18)) (f21 : Exa Z h0 a18 cC3) (f22 : Fld Z h0 a18 cC3 "coder" "B" (VI 0)) (f24 : Fld Z h0 a18 cC3 "value" "[B" (VR a23)) (f29 : Arv Z h0 a23 k25 .byte 3 [VI p26, VI p27, VI p28] (VI 0)) (f31 : ¬ ((own_f23_m22 (63 : Int32) p26 p27 p28) < (0 : Int32))) :
    MetFree l yM17 (head1 (Jvm.Cond.code yM17 prog_105_method_2_code 1 (some .boolean) :: ws) ({ frames := 4, cells := 0, slots := 0, locals := 59 } : Room)) (fun a U => a = #[(.ref a1)] ∧ Z.Warmed39 U.vm ∧ U.heap = h0) (fun _ _ _ _ _ => True) (fun _ U o U' => ∃ v L, o = .returned v ∧ Q9_14 Z a1 a2 p6 a11 k13 p14 a18 a23 k25 p26 p27 p28 h0 n0 v U'.heap L ∧ FrameEnd U o U' L ({ frames := 4, cells := 0, slots := 0, locals := 59 } : Room).cells ({ frames := 4, cells := 0, slots := 0, locals := 59 } : Room).slots) := by
  refine own_enter (n0 := n0) (plainFor_of_name pn6) (fun m => ef9_14 m a1) ?_
  intro p e s m below meth c s₁ hx hby hml hown hnm hret hlk X0 e0 hZ hh N0
  show own_Fin p e below _ s₁ (mkF m 0 #[SR a1] [])
  refine own_go (fun _ k => XS.aloadN X0.here hx rfl (hb hby d9_0) rfl rfl k) ?_
  show own_Fin p e below _ s₁ (mkF m 1 #[SR a1] [VR a1])
  obtain ⟨T4, X4, e4, st4⟩ := getF X0 hx hZ hown (host := "") (Or.inl (WW hw 43)) Via.refl e0 f3 (g := (mkF m 1 #[SR a1] [VR a1])) rfl rfl (hb hby d9_1)
  refine own_go st4 ?_
  show own_Fin p e below _ T4 (mkF m 4 #[SR a1] [VR a2])
  refine own_go (fun _ k => XS.bipush X4.here hx rfl (hb hby d9_4) k) ?_
  show own_Fin p e below _ T4 (mkF m 6 #[SR a1] [VI 63, VR a2])
  obtain ⟨_, T16, L16, X16, hQ16, st16⟩ := own_cV X4 hx hZ hown (WW hw 57) (WW hw 58) (notFace_of_selects (args := #[]) (mvT hZ (WW hw 60))) (WW hw 60) (WW hw 59) (WW hw 12) (WW hw 61) (rm10_2 l Z a0 hw [] a2 (63 : Int32) p6 a11 k13 p14 h0 n0 Z0 f5 f7 f8 f9 f10 f12 f15 (by decide : ¬ ((63 : Int32) < (0 : Int32))) (by decide : ¬ ((255 : Int32) < (63 : Int32)))) e4 f5 hml (g := (mkF m 6 #[SR a1] [VI 63, VR a2])) pd0 (hb hby d9_6) [VI 63] [] (W := 0)
  obtain ⟨rfl, N16q, e16⟩ := hQ16
  have N16 := Fr.app N0 N16q
  refine own_go st16 ?_
  show own_Fin p e below _ T16 (mkF m 9 #[SR a1] [VI (own_f23_m12 (63 : Int32) p14)])
  refine own_go (fun _ k => XS.ifNo X16.here hx rfl (hb hby d9_9) rfl ((if0 _ _).trans (tlt f17).2.1) (XS.aloadN X16.here hx rfl (hb hby d9_12) rfl rfl k)) ?_
  show own_Fin p e below _ T16 (mkF m 13 #[SR a1] [VR a1])
  obtain ⟨T20, X20, e20, st20⟩ := getF X16 hx hZ hown (host := "") (Or.inl (WW hw 45)) Via.refl e16 f19 (g := (mkF m 13 #[SR a1] [VR a1])) rfl rfl (hb hby d9_13)
  refine own_go st20 ?_
  show own_Fin p e below _ T20 (mkF m 16 #[SR a1] [VR a18])
  refine own_go (fun _ k => XS.bipush X20.here hx rfl (hb hby d9_16) k) ?_
  show own_Fin p e below _ T20 (mkF m 18 #[SR a1] [VI 63, VR a18])
  obtain ⟨_, T30, L30, X30, hQ30, st30⟩ := own_cV X20 hx hZ hown (WW hw 57) (WW hw 58) (notFace_of_selects (args := #[]) (mvT hZ (WW hw 60))) (WW hw 60) (WW hw 59) (WW hw 12) (WW hw 61) (rm10_4 l Z a0 hw [] a18 (63 : Int32) p6 a23 k25 p26 p27 p28 h0 n0 Z0 f21 f7 f8 f9 f22 f24 f29 (by decide : ¬ ((63 : Int32) < (0 : Int32))) (by decide : ¬ ((255 : Int32) < (63 : Int32)))) e20 f21 hml (g := (mkF m 18 #[SR a1] [VI 63, VR a18])) pd0 (hb hby d9_18) [VI 63] [] (W := 0)
  obtain ⟨rfl, N30q, e30⟩ := hQ30
  have N30 := Fr.app N16 N30q
  refine own_go st30 ?_
  show own_Fin p e below _ T30 (mkF m 21 #[SR a1] [VI (own_f23_m22 (63 : Int32) p26 p27 p28)])
  refine own_go (fun _ k => XS.ifYes X30.here hx rfl (pc0 := 21) (pc' := 28) rfl (hb hby d9_21) rfl ((if0 _ _).trans (flt f31).2.1) (by decide) (by decide) (XS.iconst X30.here hx rfl (hb hby d9_28) k)) ?_
  show own_Fin p e below _ T30 (mkF m 29 #[SR a1] [VI 0])
  obtain ⟨fs, hr, hrun, hended, hW, hsame⟩ := X30.leave (v := some (.int (0 : Int32))) (fun h => by rw [hret] at h; cases h)
  refine own_end (retN X30 hx (t := .boolean) hret (by simp) (hb hby d9_29) hr) hrun hended ⟨_, _, rfl, ?_, ⟨_, rfl⟩, hW, hsame.mono (by decide) (by decide)⟩
  show Q9_14 Z a1 a2 p6 a11 k13 p14 a18 a23 k25 p26 p27 p28 h0 n0 _ T30.heap _
  rw [e30]
  exact ⟨rfl, N30, rfl⟩
theorem ef9_15 (m : MethodId) (a1 : Addr) : entryFrame m #[(.ref a1)] 1 = mkF m 0 #[SR a1] [] := by first | (simp [entryFrame, mkF, argsToLocals, Value.category]; done) | rfl
def Q9_15 (Z : State) (a1 : Addr) (a2 : Addr) (p6 : Int32) (a11 : Addr) (k13 : ClassId) (p14 : Int32) (a18 : Addr) (a23 : Addr) (k25 : ClassId) (p26 : Int32) (p27 : Int32) (p28 : Int32) (h0 : Heap) (n0 : Nat) (v : Option Value) (h : Heap) (L : List Loc) : Prop := v = some (.int (1 : Int32)) ∧ Fr n0 L ∧ h = h0
set_option maxRecDepth 65536 in
set_option maxHeartbeats 40000000 in
theorem rm9_15 (l : Launch) (Z : State) (a0 : Array Value) (hw : HW a0 Z) (ws : List Jvm.Cond) (a1 : Addr) (a2 : Addr) (p6 : Int32) (a11 : Addr) (k13 : ClassId) (p14 : Int32) (a18 : Addr) (a23 : Addr) (k25 : ClassId) (p26 : Int32) (p27 : Int32) (p28 : Int32) (h0 : Heap) (n0 : Nat) (Z0 : n0 ≤ h0.size) (f3 : Fld Z h0 a1 cC0 "article" cC1 (VR a2)) (f5 : Exa Z h0 a2 cC3) (f7 : Sta Z Z.heap "java/lang/String" "COMPACT_STRINGS" "Z" (.int p6)) (f8 : Old Z n0 h0) (f9 : ¬ (p6 = (0 : Int32))) (f10 : Fld Z h0 a2 cC3 "coder" "B" (VI 0)) (f12 : Fld Z h0 a2 cC3 "value" "[B" (VR a11)) (f15 : Arv Z h0 a11 k13 .byte 1 [VI p14] (VI 0)) (f17 : (own_f23_m12 (63 : Int32) p14) < (0 : Int32)) (f19 : Fld Z h0 a1 cC0 "clause" cC1 (VR a18)) (f21 : Exa Z h0 a18 cC3) (f22 : Fld Z h0 a18 cC3 "coder" "B" (VI 0)) (f24 : Fld Z h0 a18 cC3 "value" "[B" (VR a23)) (f29 : Arv Z h0 a23 k25 .byte 3 [VI p26, VI p27, VI p28] (VI 0)) (f31 : (own_f23_m22 (63 : Int32) p26 p27 p28) < (0 : Int32)) :
    MetFree l yM17 (head1 (Jvm.Cond.code yM17 prog_105_method_2_code 1 (some .boolean) :: ws) ({ frames := 4, cells := 0, slots := 0, locals := 59 } : Room)) (fun a U => a = #[(.ref a1)] ∧ Z.Warmed39 U.vm ∧ U.heap = h0) (fun _ _ _ _ _ => True) (fun _ U o U' => ∃ v L, o = .returned v ∧ Q9_15 Z a1 a2 p6 a11 k13 p14 a18 a23 k25 p26 p27 p28 h0 n0 v U'.heap L ∧ FrameEnd U o U' L ({ frames := 4, cells := 0, slots := 0, locals := 59 } : Room).cells ({ frames := 4, cells := 0, slots := 0, locals := 59 } : Room).slots) := by
  refine own_enter (n0 := n0) (plainFor_of_name pn6) (fun m => ef9_15 m a1) ?_
  intro p e s m below meth c s₁ hx hby hml hown hnm hret hlk X0 e0 hZ hh N0
  show own_Fin p e below _ s₁ (mkF m 0 #[SR a1] [])
  refine own_go (fun _ k => XS.aloadN X0.here hx rfl (hb hby d9_0) rfl rfl k) ?_
  show own_Fin p e below _ s₁ (mkF m 1 #[SR a1] [VR a1])
  obtain ⟨T4, X4, e4, st4⟩ := getF X0 hx hZ hown (host := "") (Or.inl (WW hw 43)) Via.refl e0 f3 (g := (mkF m 1 #[SR a1] [VR a1])) rfl rfl (hb hby d9_1)
  refine own_go st4 ?_
  show own_Fin p e below _ T4 (mkF m 4 #[SR a1] [VR a2])
  refine own_go (fun _ k => XS.bipush X4.here hx rfl (hb hby d9_4) k) ?_
  show own_Fin p e below _ T4 (mkF m 6 #[SR a1] [VI 63, VR a2])
  obtain ⟨_, T16, L16, X16, hQ16, st16⟩ := own_cV X4 hx hZ hown (WW hw 57) (WW hw 58) (notFace_of_selects (args := #[]) (mvT hZ (WW hw 60))) (WW hw 60) (WW hw 59) (WW hw 12) (WW hw 61) (rm10_2 l Z a0 hw [] a2 (63 : Int32) p6 a11 k13 p14 h0 n0 Z0 f5 f7 f8 f9 f10 f12 f15 (by decide : ¬ ((63 : Int32) < (0 : Int32))) (by decide : ¬ ((255 : Int32) < (63 : Int32)))) e4 f5 hml (g := (mkF m 6 #[SR a1] [VI 63, VR a2])) pd0 (hb hby d9_6) [VI 63] [] (W := 0)
  obtain ⟨rfl, N16q, e16⟩ := hQ16
  have N16 := Fr.app N0 N16q
  refine own_go st16 ?_
  show own_Fin p e below _ T16 (mkF m 9 #[SR a1] [VI (own_f23_m12 (63 : Int32) p14)])
  refine own_go (fun _ k => XS.ifNo X16.here hx rfl (hb hby d9_9) rfl ((if0 _ _).trans (tlt f17).2.1) (XS.aloadN X16.here hx rfl (hb hby d9_12) rfl rfl k)) ?_
  show own_Fin p e below _ T16 (mkF m 13 #[SR a1] [VR a1])
  obtain ⟨T20, X20, e20, st20⟩ := getF X16 hx hZ hown (host := "") (Or.inl (WW hw 45)) Via.refl e16 f19 (g := (mkF m 13 #[SR a1] [VR a1])) rfl rfl (hb hby d9_13)
  refine own_go st20 ?_
  show own_Fin p e below _ T20 (mkF m 16 #[SR a1] [VR a18])
  refine own_go (fun _ k => XS.bipush X20.here hx rfl (hb hby d9_16) k) ?_
  show own_Fin p e below _ T20 (mkF m 18 #[SR a1] [VI 63, VR a18])
  obtain ⟨_, T30, L30, X30, hQ30, st30⟩ := own_cV X20 hx hZ hown (WW hw 57) (WW hw 58) (notFace_of_selects (args := #[]) (mvT hZ (WW hw 60))) (WW hw 60) (WW hw 59) (WW hw 12) (WW hw 61) (rm10_4 l Z a0 hw [] a18 (63 : Int32) p6 a23 k25 p26 p27 p28 h0 n0 Z0 f21 f7 f8 f9 f22 f24 f29 (by decide : ¬ ((63 : Int32) < (0 : Int32))) (by decide : ¬ ((255 : Int32) < (63 : Int32)))) e20 f21 hml (g := (mkF m 18 #[SR a1] [VI 63, VR a18])) pd0 (hb hby d9_18) [VI 63] [] (W := 0)
  obtain ⟨rfl, N30q, e30⟩ := hQ30
  have N30 := Fr.app N16 N30q
  refine own_go st30 ?_
  show own_Fin p e below _ T30 (mkF m 21 #[SR a1] [VI (own_f23_m22 (63 : Int32) p26 p27 p28)])
  refine own_go (fun _ k => XS.ifNo X30.here hx rfl (hb hby d9_21) rfl ((if0 _ _).trans (tlt f31).2.1) (XS.iconst X30.here hx rfl (hb hby d9_24) (XS.goto X30.here hx rfl (pc0 := 25) (pc' := 29) rfl (hb hby d9_25) (by decide) (by decide) k))) ?_
  show own_Fin p e below _ T30 (mkF m 29 #[SR a1] [VI 1])
  obtain ⟨fs, hr, hrun, hended, hW, hsame⟩ := X30.leave (v := some (.int (1 : Int32))) (fun h => by rw [hret] at h; cases h)
  refine own_end (retN X30 hx (t := .boolean) hret (by simp) (hb hby d9_29) hr) hrun hended ⟨_, _, rfl, ?_, ⟨_, rfl⟩, hW, hsame.mono (by decide) (by decide)⟩
  show Q9_15 Z a1 a2 p6 a11 k13 p14 a18 a23 k25 p26 p27 p28 h0 n0 _ T30.heap _
  rw [e30]
  exact ⟨rfl, N30, rfl⟩
theorem ef9_16 (m : MethodId) (a1 : Addr) : entryFrame m #[(.ref a1)] 1 = mkF m 0 #[SR a1] [] := by first | (simp [entryFrame, mkF, argsToLocals, Value.category]; done) | rfl
def Q9_16 (Z : State) (a1 : Addr) (a2 : Addr) (p6 : Int32) (a11 : Addr) (k13 : ClassId) (p14 : Int32) (p15 : Int32) (h0 : Heap) (n0 : Nat) (v : Option Value) (h : Heap) (L : List Loc) : Prop := v = some (.int (0 : Int32)) ∧ Fr n0 L ∧ h = h0
set_option maxRecDepth 65536 in
set_option maxHeartbeats 40000000 in
theorem rm9_16 (l : Launch) (Z : State) (a0 : Array Value) (hw : HW a0 Z) (ws : List Jvm.Cond) (a1 : Addr) (a2 : Addr) (p6 : Int32) (a11 : Addr) (k13 : ClassId) (p14 : Int32) (p15 : Int32) (h0 : Heap) (n0 : Nat) (Z0 : n0 ≤ h0.size) (f3 : Fld Z h0 a1 cC0 "article" cC1 (VR a2)) (f5 : Exa Z h0 a2 cC3) (f7 : Sta Z Z.heap "java/lang/String" "COMPACT_STRINGS" "Z" (.int p6)) (f8 : Old Z n0 h0) (f9 : ¬ (p6 = (0 : Int32))) (f10 : Fld Z h0 a2 cC3 "coder" "B" (VI 0)) (f12 : Fld Z h0 a2 cC3 "value" "[B" (VR a11)) (f16 : Arv Z h0 a11 k13 .byte 2 [VI p14, VI p15] (VI 0)) (f18 : ¬ ((own_f23_m17 (63 : Int32) p14 p15) < (0 : Int32))) :
    MetFree l yM17 (head1 (Jvm.Cond.code yM17 prog_105_method_2_code 1 (some .boolean) :: ws) ({ frames := 4, cells := 0, slots := 0, locals := 59 } : Room)) (fun a U => a = #[(.ref a1)] ∧ Z.Warmed39 U.vm ∧ U.heap = h0) (fun _ _ _ _ _ => True) (fun _ U o U' => ∃ v L, o = .returned v ∧ Q9_16 Z a1 a2 p6 a11 k13 p14 p15 h0 n0 v U'.heap L ∧ FrameEnd U o U' L ({ frames := 4, cells := 0, slots := 0, locals := 59 } : Room).cells ({ frames := 4, cells := 0, slots := 0, locals := 59 } : Room).slots) := by
  refine own_enter (n0 := n0) (plainFor_of_name pn6) (fun m => ef9_16 m a1) ?_
  intro p e s m below meth c s₁ hx hby hml hown hnm hret hlk X0 e0 hZ hh N0
  show own_Fin p e below _ s₁ (mkF m 0 #[SR a1] [])
  refine own_go (fun _ k => XS.aloadN X0.here hx rfl (hb hby d9_0) rfl rfl k) ?_
  show own_Fin p e below _ s₁ (mkF m 1 #[SR a1] [VR a1])
  obtain ⟨T4, X4, e4, st4⟩ := getF X0 hx hZ hown (host := "") (Or.inl (WW hw 43)) Via.refl e0 f3 (g := (mkF m 1 #[SR a1] [VR a1])) rfl rfl (hb hby d9_1)
  refine own_go st4 ?_
  show own_Fin p e below _ T4 (mkF m 4 #[SR a1] [VR a2])
  refine own_go (fun _ k => XS.bipush X4.here hx rfl (hb hby d9_4) k) ?_
  show own_Fin p e below _ T4 (mkF m 6 #[SR a1] [VI 63, VR a2])
  obtain ⟨_, T17, L17, X17, hQ17, st17⟩ := own_cV X4 hx hZ hown (WW hw 57) (WW hw 58) (notFace_of_selects (args := #[]) (mvT hZ (WW hw 60))) (WW hw 60) (WW hw 59) (WW hw 12) (WW hw 61) (rm10_3 l Z a0 hw [] a2 (63 : Int32) p6 a11 k13 p14 p15 h0 n0 Z0 f5 f7 f8 f9 f10 f12 f16 (by decide : ¬ ((63 : Int32) < (0 : Int32))) (by decide : ¬ ((255 : Int32) < (63 : Int32)))) e4 f5 hml (g := (mkF m 6 #[SR a1] [VI 63, VR a2])) pd0 (hb hby d9_6) [VI 63] [] (W := 0)
  obtain ⟨rfl, N17q, e17⟩ := hQ17
  have N17 := Fr.app N0 N17q
  refine own_go st17 ?_
  show own_Fin p e below _ T17 (mkF m 9 #[SR a1] [VI (own_f23_m17 (63 : Int32) p14 p15)])
  refine own_go (fun _ k => XS.ifYes X17.here hx rfl (pc0 := 9) (pc' := 28) rfl (hb hby d9_9) rfl ((if0 _ _).trans (flt f18).2.1) (by decide) (by decide) (XS.iconst X17.here hx rfl (hb hby d9_28) k)) ?_
  show own_Fin p e below _ T17 (mkF m 29 #[SR a1] [VI 0])
  obtain ⟨fs, hr, hrun, hended, hW, hsame⟩ := X17.leave (v := some (.int (0 : Int32))) (fun h => by rw [hret] at h; cases h)
  refine own_end (retN X17 hx (t := .boolean) hret (by simp) (hb hby d9_29) hr) hrun hended ⟨_, _, rfl, ?_, ⟨_, rfl⟩, hW, hsame.mono (by decide) (by decide)⟩
  show Q9_16 Z a1 a2 p6 a11 k13 p14 p15 h0 n0 _ T17.heap _
  rw [e17]
  exact ⟨rfl, N17, rfl⟩
theorem ef9_17 (m : MethodId) (a1 : Addr) : entryFrame m #[(.ref a1)] 1 = mkF m 0 #[SR a1] [] := by first | (simp [entryFrame, mkF, argsToLocals, Value.category]; done) | rfl
def Q9_17 (Z : State) (a1 : Addr) (a2 : Addr) (p6 : Int32) (a11 : Addr) (k13 : ClassId) (p14 : Int32) (p15 : Int32) (a19 : Addr) (a24 : Addr) (k26 : ClassId) (h0 : Heap) (n0 : Nat) (v : Option Value) (h : Heap) (L : List Loc) : Prop := v = some (.int (1 : Int32)) ∧ Fr n0 L ∧ h = h0
set_option maxRecDepth 65536 in
set_option maxHeartbeats 40000000 in
theorem rm9_17 (l : Launch) (Z : State) (a0 : Array Value) (hw : HW a0 Z) (ws : List Jvm.Cond) (a1 : Addr) (a2 : Addr) (p6 : Int32) (a11 : Addr) (k13 : ClassId) (p14 : Int32) (p15 : Int32) (a19 : Addr) (a24 : Addr) (k26 : ClassId) (h0 : Heap) (n0 : Nat) (Z0 : n0 ≤ h0.size) (f3 : Fld Z h0 a1 cC0 "article" cC1 (VR a2)) (f5 : Exa Z h0 a2 cC3) (f7 : Sta Z Z.heap "java/lang/String" "COMPACT_STRINGS" "Z" (.int p6)) (f8 : Old Z n0 h0) (f9 : ¬ (p6 = (0 : Int32))) (f10 : Fld Z h0 a2 cC3 "coder" "B" (VI 0)) (f12 : Fld Z h0 a2 cC3 "value" "[B" (VR a11)) (f16 : Arv Z h0 a11 k13 .byte 2 [VI p14, VI p15] (VI 0)) (f18 : (own_f23_m17 (63 : Int32) p14 p15) < (0 : Int32)) (f20 : Fld Z h0 a1 cC0 "clause" cC1 (VR a19)) (f22 : Exa Z h0 a19 cC3) (f23 : Fld Z h0 a19 cC3 "coder" "B" (VI 0)) (f25 : Fld Z h0 a19 cC3 "value" "[B" (VR a24)) (f27 : Arv Z h0 a24 k26 .byte 0 [] (VI 0)) :
    MetFree l yM17 (head1 (Jvm.Cond.code yM17 prog_105_method_2_code 1 (some .boolean) :: ws) ({ frames := 4, cells := 0, slots := 0, locals := 59 } : Room)) (fun a U => a = #[(.ref a1)] ∧ Z.Warmed39 U.vm ∧ U.heap = h0) (fun _ _ _ _ _ => True) (fun _ U o U' => ∃ v L, o = .returned v ∧ Q9_17 Z a1 a2 p6 a11 k13 p14 p15 a19 a24 k26 h0 n0 v U'.heap L ∧ FrameEnd U o U' L ({ frames := 4, cells := 0, slots := 0, locals := 59 } : Room).cells ({ frames := 4, cells := 0, slots := 0, locals := 59 } : Room).slots) := by
  refine own_enter (n0 := n0) (plainFor_of_name pn6) (fun m => ef9_17 m a1) ?_
  intro p e s m below meth c s₁ hx hby hml hown hnm hret hlk X0 e0 hZ hh N0
  show own_Fin p e below _ s₁ (mkF m 0 #[SR a1] [])
  refine own_go (fun _ k => XS.aloadN X0.here hx rfl (hb hby d9_0) rfl rfl k) ?_
  show own_Fin p e below _ s₁ (mkF m 1 #[SR a1] [VR a1])
  obtain ⟨T4, X4, e4, st4⟩ := getF X0 hx hZ hown (host := "") (Or.inl (WW hw 43)) Via.refl e0 f3 (g := (mkF m 1 #[SR a1] [VR a1])) rfl rfl (hb hby d9_1)
  refine own_go st4 ?_
  show own_Fin p e below _ T4 (mkF m 4 #[SR a1] [VR a2])
  refine own_go (fun _ k => XS.bipush X4.here hx rfl (hb hby d9_4) k) ?_
  show own_Fin p e below _ T4 (mkF m 6 #[SR a1] [VI 63, VR a2])
  obtain ⟨_, T17, L17, X17, hQ17, st17⟩ := own_cV X4 hx hZ hown (WW hw 57) (WW hw 58) (notFace_of_selects (args := #[]) (mvT hZ (WW hw 60))) (WW hw 60) (WW hw 59) (WW hw 12) (WW hw 61) (rm10_3 l Z a0 hw [] a2 (63 : Int32) p6 a11 k13 p14 p15 h0 n0 Z0 f5 f7 f8 f9 f10 f12 f16 (by decide : ¬ ((63 : Int32) < (0 : Int32))) (by decide : ¬ ((255 : Int32) < (63 : Int32)))) e4 f5 hml (g := (mkF m 6 #[SR a1] [VI 63, VR a2])) pd0 (hb hby d9_6) [VI 63] [] (W := 0)
  obtain ⟨rfl, N17q, e17⟩ := hQ17
  have N17 := Fr.app N0 N17q
  refine own_go st17 ?_
  show own_Fin p e below _ T17 (mkF m 9 #[SR a1] [VI (own_f23_m17 (63 : Int32) p14 p15)])
  refine own_go (fun _ k => XS.ifNo X17.here hx rfl (hb hby d9_9) rfl ((if0 _ _).trans (tlt f18).2.1) (XS.aloadN X17.here hx rfl (hb hby d9_12) rfl rfl k)) ?_
  show own_Fin p e below _ T17 (mkF m 13 #[SR a1] [VR a1])
  obtain ⟨T21, X21, e21, st21⟩ := getF X17 hx hZ hown (host := "") (Or.inl (WW hw 45)) Via.refl e17 f20 (g := (mkF m 13 #[SR a1] [VR a1])) rfl rfl (hb hby d9_13)
  refine own_go st21 ?_
  show own_Fin p e below _ T21 (mkF m 16 #[SR a1] [VR a19])
  refine own_go (fun _ k => XS.bipush X21.here hx rfl (hb hby d9_16) k) ?_
  show own_Fin p e below _ T21 (mkF m 18 #[SR a1] [VI 63, VR a19])
  obtain ⟨_, T28, L28, X28, hQ28, st28⟩ := own_cV X21 hx hZ hown (WW hw 57) (WW hw 58) (notFace_of_selects (args := #[]) (mvT hZ (WW hw 60))) (WW hw 60) (WW hw 59) (WW hw 12) (WW hw 61) (rm10_1 l Z a0 hw [] a19 (63 : Int32) p6 a24 k26 h0 n0 Z0 f22 f7 f8 f9 f23 f25 f27 (by decide : ¬ ((63 : Int32) < (0 : Int32))) (by decide : ¬ ((255 : Int32) < (63 : Int32)))) e21 f22 hml (g := (mkF m 18 #[SR a1] [VI 63, VR a19])) pd0 (hb hby d9_18) [VI 63] [] (W := 0)
  obtain ⟨rfl, N28q, e28⟩ := hQ28
  have N28 := Fr.app N17 N28q
  refine own_go st28 ?_
  show own_Fin p e below _ T28 (mkF m 21 #[SR a1] [VI (-1)])
  refine own_go (fun _ k => XS.ifNo X28.here hx rfl (hb hby d9_21) rfl ((if0 _ _).trans (tlt (by decide : (-1 : Int32) < (0 : Int32))).2.1) (XS.iconst X28.here hx rfl (hb hby d9_24) (XS.goto X28.here hx rfl (pc0 := 25) (pc' := 29) rfl (hb hby d9_25) (by decide) (by decide) k))) ?_
  show own_Fin p e below _ T28 (mkF m 29 #[SR a1] [VI 1])
  obtain ⟨fs, hr, hrun, hended, hW, hsame⟩ := X28.leave (v := some (.int (1 : Int32))) (fun h => by rw [hret] at h; cases h)
  refine own_end (retN X28 hx (t := .boolean) hret (by simp) (hb hby d9_29) hr) hrun hended ⟨_, _, rfl, ?_, ⟨_, rfl⟩, hW, hsame.mono (by decide) (by decide)⟩
  show Q9_17 Z a1 a2 p6 a11 k13 p14 p15 a19 a24 k26 h0 n0 _ T28.heap _
  rw [e28]
  exact ⟨rfl, N28, rfl⟩
theorem ef9_18 (m : MethodId) (a1 : Addr) : entryFrame m #[(.ref a1)] 1 = mkF m 0 #[SR a1] [] := by first | (simp [entryFrame, mkF, argsToLocals, Value.category]; done) | rfl
def Q9_18 (Z : State) (a1 : Addr) (a2 : Addr) (p6 : Int32) (a11 : Addr) (k13 : ClassId) (p14 : Int32) (p15 : Int32) (a19 : Addr) (a24 : Addr) (k26 : ClassId) (p27 : Int32) (h0 : Heap) (n0 : Nat) (v : Option Value) (h : Heap) (L : List Loc) : Prop := v = some (.int (0 : Int32)) ∧ Fr n0 L ∧ h = h0
set_option maxRecDepth 65536 in
set_option maxHeartbeats 40000000 in
theorem rm9_18 (l : Launch) (Z : State) (a0 : Array Value) (hw : HW a0 Z) (ws : List Jvm.Cond) (a1 : Addr) (a2 : Addr) (p6 : Int32) (a11 : Addr) (k13 : ClassId) (p14 : Int32) (p15 : Int32) (a19 : Addr) (a24 : Addr) (k26 : ClassId) (p27 : Int32) (h0 : Heap) (n0 : Nat) (Z0 : n0 ≤ h0.size) (f3 : Fld Z h0 a1 cC0 "article" cC1 (VR a2)) (f5 : Exa Z h0 a2 cC3) (f7 : Sta Z Z.heap "java/lang/String" "COMPACT_STRINGS" "Z" (.int p6)) (f8 : Old Z n0 h0) (f9 : ¬ (p6 = (0 : Int32))) (f10 : Fld Z h0 a2 cC3 "coder" "B" (VI 0)) (f12 : Fld Z h0 a2 cC3 "value" "[B" (VR a11)) (f16 : Arv Z h0 a11 k13 .byte 2 [VI p14, VI p15] (VI 0)) (f18 : (own_f23_m17 (63 : Int32) p14 p15) < (0 : Int32)) (f20 : Fld Z h0 a1 cC0 "clause" cC1 (VR a19)) (f22 : Exa Z h0 a19 cC3) (f23 : Fld Z h0 a19 cC3 "coder" "B" (VI 0)) (f25 : Fld Z h0 a19 cC3 "value" "[B" (VR a24)) (f28 : Arv Z h0 a24 k26 .byte 1 [VI p27] (VI 0)) (f30 : ¬ ((own_f23_m12 (63 : Int32) p27) < (0 : Int32))) :
    MetFree l yM17 (head1 (Jvm.Cond.code yM17 prog_105_method_2_code 1 (some .boolean) :: ws) ({ frames := 4, cells := 0, slots := 0, locals := 59 } : Room)) (fun a U => a = #[(.ref a1)] ∧ Z.Warmed39 U.vm ∧ U.heap = h0) (fun _ _ _ _ _ => True) (fun _ U o U' => ∃ v L, o = .returned v ∧ Q9_18 Z a1 a2 p6 a11 k13 p14 p15 a19 a24 k26 p27 h0 n0 v U'.heap L ∧ FrameEnd U o U' L ({ frames := 4, cells := 0, slots := 0, locals := 59 } : Room).cells ({ frames := 4, cells := 0, slots := 0, locals := 59 } : Room).slots) := by
  refine own_enter (n0 := n0) (plainFor_of_name pn6) (fun m => ef9_18 m a1) ?_
  intro p e s m below meth c s₁ hx hby hml hown hnm hret hlk X0 e0 hZ hh N0
  show own_Fin p e below _ s₁ (mkF m 0 #[SR a1] [])
  refine own_go (fun _ k => XS.aloadN X0.here hx rfl (hb hby d9_0) rfl rfl k) ?_
  show own_Fin p e below _ s₁ (mkF m 1 #[SR a1] [VR a1])
  obtain ⟨T4, X4, e4, st4⟩ := getF X0 hx hZ hown (host := "") (Or.inl (WW hw 43)) Via.refl e0 f3 (g := (mkF m 1 #[SR a1] [VR a1])) rfl rfl (hb hby d9_1)
  refine own_go st4 ?_
  show own_Fin p e below _ T4 (mkF m 4 #[SR a1] [VR a2])
  refine own_go (fun _ k => XS.bipush X4.here hx rfl (hb hby d9_4) k) ?_
  show own_Fin p e below _ T4 (mkF m 6 #[SR a1] [VI 63, VR a2])
  obtain ⟨_, T17, L17, X17, hQ17, st17⟩ := own_cV X4 hx hZ hown (WW hw 57) (WW hw 58) (notFace_of_selects (args := #[]) (mvT hZ (WW hw 60))) (WW hw 60) (WW hw 59) (WW hw 12) (WW hw 61) (rm10_3 l Z a0 hw [] a2 (63 : Int32) p6 a11 k13 p14 p15 h0 n0 Z0 f5 f7 f8 f9 f10 f12 f16 (by decide : ¬ ((63 : Int32) < (0 : Int32))) (by decide : ¬ ((255 : Int32) < (63 : Int32)))) e4 f5 hml (g := (mkF m 6 #[SR a1] [VI 63, VR a2])) pd0 (hb hby d9_6) [VI 63] [] (W := 0)
  obtain ⟨rfl, N17q, e17⟩ := hQ17
  have N17 := Fr.app N0 N17q
  refine own_go st17 ?_
  show own_Fin p e below _ T17 (mkF m 9 #[SR a1] [VI (own_f23_m17 (63 : Int32) p14 p15)])
  refine own_go (fun _ k => XS.ifNo X17.here hx rfl (hb hby d9_9) rfl ((if0 _ _).trans (tlt f18).2.1) (XS.aloadN X17.here hx rfl (hb hby d9_12) rfl rfl k)) ?_
  show own_Fin p e below _ T17 (mkF m 13 #[SR a1] [VR a1])
  obtain ⟨T21, X21, e21, st21⟩ := getF X17 hx hZ hown (host := "") (Or.inl (WW hw 45)) Via.refl e17 f20 (g := (mkF m 13 #[SR a1] [VR a1])) rfl rfl (hb hby d9_13)
  refine own_go st21 ?_
  show own_Fin p e below _ T21 (mkF m 16 #[SR a1] [VR a19])
  refine own_go (fun _ k => XS.bipush X21.here hx rfl (hb hby d9_16) k) ?_
  show own_Fin p e below _ T21 (mkF m 18 #[SR a1] [VI 63, VR a19])
  obtain ⟨_, T29, L29, X29, hQ29, st29⟩ := own_cV X21 hx hZ hown (WW hw 57) (WW hw 58) (notFace_of_selects (args := #[]) (mvT hZ (WW hw 60))) (WW hw 60) (WW hw 59) (WW hw 12) (WW hw 61) (rm10_2 l Z a0 hw [] a19 (63 : Int32) p6 a24 k26 p27 h0 n0 Z0 f22 f7 f8 f9 f23 f25 f28 (by decide : ¬ ((63 : Int32) < (0 : Int32))) (by decide : ¬ ((255 : Int32) < (63 : Int32)))) e21 f22 hml (g := (mkF m 18 #[SR a1] [VI 63, VR a19])) pd0 (hb hby d9_18) [VI 63] [] (W := 0)
  obtain ⟨rfl, N29q, e29⟩ := hQ29
  have N29 := Fr.app N17 N29q
  refine own_go st29 ?_
  show own_Fin p e below _ T29 (mkF m 21 #[SR a1] [VI (own_f23_m12 (63 : Int32) p27)])
  refine own_go (fun _ k => XS.ifYes X29.here hx rfl (pc0 := 21) (pc' := 28) rfl (hb hby d9_21) rfl ((if0 _ _).trans (flt f30).2.1) (by decide) (by decide) (XS.iconst X29.here hx rfl (hb hby d9_28) k)) ?_
  show own_Fin p e below _ T29 (mkF m 29 #[SR a1] [VI 0])
  obtain ⟨fs, hr, hrun, hended, hW, hsame⟩ := X29.leave (v := some (.int (0 : Int32))) (fun h => by rw [hret] at h; cases h)
  refine own_end (retN X29 hx (t := .boolean) hret (by simp) (hb hby d9_29) hr) hrun hended ⟨_, _, rfl, ?_, ⟨_, rfl⟩, hW, hsame.mono (by decide) (by decide)⟩
  show Q9_18 Z a1 a2 p6 a11 k13 p14 p15 a19 a24 k26 p27 h0 n0 _ T29.heap _
  rw [e29]
  exact ⟨rfl, N29, rfl⟩
theorem ef9_19 (m : MethodId) (a1 : Addr) : entryFrame m #[(.ref a1)] 1 = mkF m 0 #[SR a1] [] := by first | (simp [entryFrame, mkF, argsToLocals, Value.category]; done) | rfl
def Q9_19 (Z : State) (a1 : Addr) (a2 : Addr) (p6 : Int32) (a11 : Addr) (k13 : ClassId) (p14 : Int32) (p15 : Int32) (a19 : Addr) (a24 : Addr) (k26 : ClassId) (p27 : Int32) (h0 : Heap) (n0 : Nat) (v : Option Value) (h : Heap) (L : List Loc) : Prop := v = some (.int (1 : Int32)) ∧ Fr n0 L ∧ h = h0
set_option maxRecDepth 65536 in
set_option maxHeartbeats 40000000 in
theorem rm9_19 (l : Launch) (Z : State) (a0 : Array Value) (hw : HW a0 Z) (ws : List Jvm.Cond) (a1 : Addr) (a2 : Addr) (p6 : Int32) (a11 : Addr) (k13 : ClassId) (p14 : Int32) (p15 : Int32) (a19 : Addr) (a24 : Addr) (k26 : ClassId) (p27 : Int32) (h0 : Heap) (n0 : Nat) (Z0 : n0 ≤ h0.size) (f3 : Fld Z h0 a1 cC0 "article" cC1 (VR a2)) (f5 : Exa Z h0 a2 cC3) (f7 : Sta Z Z.heap "java/lang/String" "COMPACT_STRINGS" "Z" (.int p6)) (f8 : Old Z n0 h0) (f9 : ¬ (p6 = (0 : Int32))) (f10 : Fld Z h0 a2 cC3 "coder" "B" (VI 0)) (f12 : Fld Z h0 a2 cC3 "value" "[B" (VR a11)) (f16 : Arv Z h0 a11 k13 .byte 2 [VI p14, VI p15] (VI 0)) (f18 : (own_f23_m17 (63 : Int32) p14 p15) < (0 : Int32)) (f20 : Fld Z h0 a1 cC0 "clause" cC1 (VR a19)) (f22 : Exa Z h0 a19 cC3) (f23 : Fld Z h0 a19 cC3 "coder" "B" (VI 0)) (f25 : Fld Z h0 a19 cC3 "value" "[B" (VR a24)) (f28 : Arv Z h0 a24 k26 .byte 1 [VI p27] (VI 0)) (f30 : (own_f23_m12 (63 : Int32) p27) < (0 : Int32)) :
    MetFree l yM17 (head1 (Jvm.Cond.code yM17 prog_105_method_2_code 1 (some .boolean) :: ws) ({ frames := 4, cells := 0, slots := 0, locals := 59 } : Room)) (fun a U => a = #[(.ref a1)] ∧ Z.Warmed39 U.vm ∧ U.heap = h0) (fun _ _ _ _ _ => True) (fun _ U o U' => ∃ v L, o = .returned v ∧ Q9_19 Z a1 a2 p6 a11 k13 p14 p15 a19 a24 k26 p27 h0 n0 v U'.heap L ∧ FrameEnd U o U' L ({ frames := 4, cells := 0, slots := 0, locals := 59 } : Room).cells ({ frames := 4, cells := 0, slots := 0, locals := 59 } : Room).slots) := by
  refine own_enter (n0 := n0) (plainFor_of_name pn6) (fun m => ef9_19 m a1) ?_
  intro p e s m below meth c s₁ hx hby hml hown hnm hret hlk X0 e0 hZ hh N0
  show own_Fin p e below _ s₁ (mkF m 0 #[SR a1] [])
  refine own_go (fun _ k => XS.aloadN X0.here hx rfl (hb hby d9_0) rfl rfl k) ?_
  show own_Fin p e below _ s₁ (mkF m 1 #[SR a1] [VR a1])
  obtain ⟨T4, X4, e4, st4⟩ := getF X0 hx hZ hown (host := "") (Or.inl (WW hw 43)) Via.refl e0 f3 (g := (mkF m 1 #[SR a1] [VR a1])) rfl rfl (hb hby d9_1)
  refine own_go st4 ?_
  show own_Fin p e below _ T4 (mkF m 4 #[SR a1] [VR a2])
  refine own_go (fun _ k => XS.bipush X4.here hx rfl (hb hby d9_4) k) ?_
  show own_Fin p e below _ T4 (mkF m 6 #[SR a1] [VI 63, VR a2])
  obtain ⟨_, T17, L17, X17, hQ17, st17⟩ := own_cV X4 hx hZ hown (WW hw 57) (WW hw 58) (notFace_of_selects (args := #[]) (mvT hZ (WW hw 60))) (WW hw 60) (WW hw 59) (WW hw 12) (WW hw 61) (rm10_3 l Z a0 hw [] a2 (63 : Int32) p6 a11 k13 p14 p15 h0 n0 Z0 f5 f7 f8 f9 f10 f12 f16 (by decide : ¬ ((63 : Int32) < (0 : Int32))) (by decide : ¬ ((255 : Int32) < (63 : Int32)))) e4 f5 hml (g := (mkF m 6 #[SR a1] [VI 63, VR a2])) pd0 (hb hby d9_6) [VI 63] [] (W := 0)
  obtain ⟨rfl, N17q, e17⟩ := hQ17
  have N17 := Fr.app N0 N17q
  refine own_go st17 ?_
  show own_Fin p e below _ T17 (mkF m 9 #[SR a1] [VI (own_f23_m17 (63 : Int32) p14 p15)])
  refine own_go (fun _ k => XS.ifNo X17.here hx rfl (hb hby d9_9) rfl ((if0 _ _).trans (tlt f18).2.1) (XS.aloadN X17.here hx rfl (hb hby d9_12) rfl rfl k)) ?_
  show own_Fin p e below _ T17 (mkF m 13 #[SR a1] [VR a1])
  obtain ⟨T21, X21, e21, st21⟩ := getF X17 hx hZ hown (host := "") (Or.inl (WW hw 45)) Via.refl e17 f20 (g := (mkF m 13 #[SR a1] [VR a1])) rfl rfl (hb hby d9_13)
  refine own_go st21 ?_
  show own_Fin p e below _ T21 (mkF m 16 #[SR a1] [VR a19])
  refine own_go (fun _ k => XS.bipush X21.here hx rfl (hb hby d9_16) k) ?_
  show own_Fin p e below _ T21 (mkF m 18 #[SR a1] [VI 63, VR a19])
  obtain ⟨_, T29, L29, X29, hQ29, st29⟩ := own_cV X21 hx hZ hown (WW hw 57) (WW hw 58) (notFace_of_selects (args := #[]) (mvT hZ (WW hw 60))) (WW hw 60) (WW hw 59) (WW hw 12) (WW hw 61) (rm10_2 l Z a0 hw [] a19 (63 : Int32) p6 a24 k26 p27 h0 n0 Z0 f22 f7 f8 f9 f23 f25 f28 (by decide : ¬ ((63 : Int32) < (0 : Int32))) (by decide : ¬ ((255 : Int32) < (63 : Int32)))) e21 f22 hml (g := (mkF m 18 #[SR a1] [VI 63, VR a19])) pd0 (hb hby d9_18) [VI 63] [] (W := 0)
  obtain ⟨rfl, N29q, e29⟩ := hQ29
  have N29 := Fr.app N17 N29q
  refine own_go st29 ?_
  show own_Fin p e below _ T29 (mkF m 21 #[SR a1] [VI (own_f23_m12 (63 : Int32) p27)])
  refine own_go (fun _ k => XS.ifNo X29.here hx rfl (hb hby d9_21) rfl ((if0 _ _).trans (tlt f30).2.1) (XS.iconst X29.here hx rfl (hb hby d9_24) (XS.goto X29.here hx rfl (pc0 := 25) (pc' := 29) rfl (hb hby d9_25) (by decide) (by decide) k))) ?_
  show own_Fin p e below _ T29 (mkF m 29 #[SR a1] [VI 1])
  obtain ⟨fs, hr, hrun, hended, hW, hsame⟩ := X29.leave (v := some (.int (1 : Int32))) (fun h => by rw [hret] at h; cases h)
  refine own_end (retN X29 hx (t := .boolean) hret (by simp) (hb hby d9_29) hr) hrun hended ⟨_, _, rfl, ?_, ⟨_, rfl⟩, hW, hsame.mono (by decide) (by decide)⟩
  show Q9_19 Z a1 a2 p6 a11 k13 p14 p15 a19 a24 k26 p27 h0 n0 _ T29.heap _
  rw [e29]
  exact ⟨rfl, N29, rfl⟩
theorem ef9_20 (m : MethodId) (a1 : Addr) : entryFrame m #[(.ref a1)] 1 = mkF m 0 #[SR a1] [] := by first | (simp [entryFrame, mkF, argsToLocals, Value.category]; done) | rfl
def Q9_20 (Z : State) (a1 : Addr) (a2 : Addr) (p6 : Int32) (a11 : Addr) (k13 : ClassId) (p14 : Int32) (p15 : Int32) (a19 : Addr) (a24 : Addr) (k26 : ClassId) (p27 : Int32) (p28 : Int32) (h0 : Heap) (n0 : Nat) (v : Option Value) (h : Heap) (L : List Loc) : Prop := v = some (.int (0 : Int32)) ∧ Fr n0 L ∧ h = h0
set_option maxRecDepth 65536 in
set_option maxHeartbeats 40000000 in
theorem rm9_20 (l : Launch) (Z : State) (a0 : Array Value) (hw : HW a0 Z) (ws : List Jvm.Cond) (a1 : Addr) (a2 : Addr) (p6 : Int32) (a11 : Addr) (k13 : ClassId) (p14 : Int32) (p15 : Int32) (a19 : Addr) (a24 : Addr) (k26 : ClassId) (p27 : Int32) (p28 : Int32) (h0 : Heap) (n0 : Nat) (Z0 : n0 ≤ h0.size) (f3 : Fld Z h0 a1 cC0 "article" cC1 (VR a2)) (f5 : Exa Z h0 a2 cC3) (f7 : Sta Z Z.heap "java/lang/String" "COMPACT_STRINGS" "Z" (.int p6)) (f8 : Old Z n0 h0) (f9 : ¬ (p6 = (0 : Int32))) (f10 : Fld Z h0 a2 cC3 "coder" "B" (VI 0)) (f12 : Fld Z h0 a2 cC3 "value" "[B" (VR a11)) (f16 : Arv Z h0 a11 k13 .byte 2 [VI p14, VI p15] (VI 0)) (f18 : (own_f23_m17 (63 : Int32) p14 p15) < (0 : Int32)) (f20 : Fld Z h0 a1 cC0 "clause" cC1 (VR a19)) (f22 : Exa Z h0 a19 cC3) (f23 : Fld Z h0 a19 cC3 "coder" "B" (VI 0)) (f25 : Fld Z h0 a19 cC3 "value" "[B" (VR a24)) (f29 : Arv Z h0 a24 k26 .byte 2 [VI p27, VI p28] (VI 0)) (f31 : ¬ ((own_f23_m17 (63 : Int32) p27 p28) < (0 : Int32))) :
    MetFree l yM17 (head1 (Jvm.Cond.code yM17 prog_105_method_2_code 1 (some .boolean) :: ws) ({ frames := 4, cells := 0, slots := 0, locals := 59 } : Room)) (fun a U => a = #[(.ref a1)] ∧ Z.Warmed39 U.vm ∧ U.heap = h0) (fun _ _ _ _ _ => True) (fun _ U o U' => ∃ v L, o = .returned v ∧ Q9_20 Z a1 a2 p6 a11 k13 p14 p15 a19 a24 k26 p27 p28 h0 n0 v U'.heap L ∧ FrameEnd U o U' L ({ frames := 4, cells := 0, slots := 0, locals := 59 } : Room).cells ({ frames := 4, cells := 0, slots := 0, locals := 59 } : Room).slots) := by
  refine own_enter (n0 := n0) (plainFor_of_name pn6) (fun m => ef9_20 m a1) ?_
  intro p e s m below meth c s₁ hx hby hml hown hnm hret hlk X0 e0 hZ hh N0
  show own_Fin p e below _ s₁ (mkF m 0 #[SR a1] [])
  refine own_go (fun _ k => XS.aloadN X0.here hx rfl (hb hby d9_0) rfl rfl k) ?_
  show own_Fin p e below _ s₁ (mkF m 1 #[SR a1] [VR a1])
  obtain ⟨T4, X4, e4, st4⟩ := getF X0 hx hZ hown (host := "") (Or.inl (WW hw 43)) Via.refl e0 f3 (g := (mkF m 1 #[SR a1] [VR a1])) rfl rfl (hb hby d9_1)
  refine own_go st4 ?_
  show own_Fin p e below _ T4 (mkF m 4 #[SR a1] [VR a2])
  refine own_go (fun _ k => XS.bipush X4.here hx rfl (hb hby d9_4) k) ?_
  show own_Fin p e below _ T4 (mkF m 6 #[SR a1] [VI 63, VR a2])
  obtain ⟨_, T17, L17, X17, hQ17, st17⟩ := own_cV X4 hx hZ hown (WW hw 57) (WW hw 58) (notFace_of_selects (args := #[]) (mvT hZ (WW hw 60))) (WW hw 60) (WW hw 59) (WW hw 12) (WW hw 61) (rm10_3 l Z a0 hw [] a2 (63 : Int32) p6 a11 k13 p14 p15 h0 n0 Z0 f5 f7 f8 f9 f10 f12 f16 (by decide : ¬ ((63 : Int32) < (0 : Int32))) (by decide : ¬ ((255 : Int32) < (63 : Int32)))) e4 f5 hml (g := (mkF m 6 #[SR a1] [VI 63, VR a2])) pd0 (hb hby d9_6) [VI 63] [] (W := 0)
  obtain ⟨rfl, N17q, e17⟩ := hQ17
  have N17 := Fr.app N0 N17q
  refine own_go st17 ?_
  show own_Fin p e below _ T17 (mkF m 9 #[SR a1] [VI (own_f23_m17 (63 : Int32) p14 p15)])
  refine own_go (fun _ k => XS.ifNo X17.here hx rfl (hb hby d9_9) rfl ((if0 _ _).trans (tlt f18).2.1) (XS.aloadN X17.here hx rfl (hb hby d9_12) rfl rfl k)) ?_
  show own_Fin p e below _ T17 (mkF m 13 #[SR a1] [VR a1])
  obtain ⟨T21, X21, e21, st21⟩ := getF X17 hx hZ hown (host := "") (Or.inl (WW hw 45)) Via.refl e17 f20 (g := (mkF m 13 #[SR a1] [VR a1])) rfl rfl (hb hby d9_13)
  refine own_go st21 ?_
  show own_Fin p e below _ T21 (mkF m 16 #[SR a1] [VR a19])
  refine own_go (fun _ k => XS.bipush X21.here hx rfl (hb hby d9_16) k) ?_
  show own_Fin p e below _ T21 (mkF m 18 #[SR a1] [VI 63, VR a19])
  obtain ⟨_, T30, L30, X30, hQ30, st30⟩ := own_cV X21 hx hZ hown (WW hw 57) (WW hw 58) (notFace_of_selects (args := #[]) (mvT hZ (WW hw 60))) (WW hw 60) (WW hw 59) (WW hw 12) (WW hw 61) (rm10_3 l Z a0 hw [] a19 (63 : Int32) p6 a24 k26 p27 p28 h0 n0 Z0 f22 f7 f8 f9 f23 f25 f29 (by decide : ¬ ((63 : Int32) < (0 : Int32))) (by decide : ¬ ((255 : Int32) < (63 : Int32)))) e21 f22 hml (g := (mkF m 18 #[SR a1] [VI 63, VR a19])) pd0 (hb hby d9_18) [VI 63] [] (W := 0)
  obtain ⟨rfl, N30q, e30⟩ := hQ30
  have N30 := Fr.app N17 N30q
  refine own_go st30 ?_
  show own_Fin p e below _ T30 (mkF m 21 #[SR a1] [VI (own_f23_m17 (63 : Int32) p27 p28)])
  refine own_go (fun _ k => XS.ifYes X30.here hx rfl (pc0 := 21) (pc' := 28) rfl (hb hby d9_21) rfl ((if0 _ _).trans (flt f31).2.1) (by decide) (by decide) (XS.iconst X30.here hx rfl (hb hby d9_28) k)) ?_
  show own_Fin p e below _ T30 (mkF m 29 #[SR a1] [VI 0])
  obtain ⟨fs, hr, hrun, hended, hW, hsame⟩ := X30.leave (v := some (.int (0 : Int32))) (fun h => by rw [hret] at h; cases h)
  refine own_end (retN X30 hx (t := .boolean) hret (by simp) (hb hby d9_29) hr) hrun hended ⟨_, _, rfl, ?_, ⟨_, rfl⟩, hW, hsame.mono (by decide) (by decide)⟩
  show Q9_20 Z a1 a2 p6 a11 k13 p14 p15 a19 a24 k26 p27 p28 h0 n0 _ T30.heap _
  rw [e30]
  exact ⟨rfl, N30, rfl⟩
theorem ef9_21 (m : MethodId) (a1 : Addr) : entryFrame m #[(.ref a1)] 1 = mkF m 0 #[SR a1] [] := by first | (simp [entryFrame, mkF, argsToLocals, Value.category]; done) | rfl
def Q9_21 (Z : State) (a1 : Addr) (a2 : Addr) (p6 : Int32) (a11 : Addr) (k13 : ClassId) (p14 : Int32) (p15 : Int32) (a19 : Addr) (a24 : Addr) (k26 : ClassId) (p27 : Int32) (p28 : Int32) (h0 : Heap) (n0 : Nat) (v : Option Value) (h : Heap) (L : List Loc) : Prop := v = some (.int (1 : Int32)) ∧ Fr n0 L ∧ h = h0
set_option maxRecDepth 65536 in
set_option maxHeartbeats 40000000 in
theorem rm9_21 (l : Launch) (Z : State) (a0 : Array Value) (hw : HW a0 Z) (ws : List Jvm.Cond) (a1 : Addr) (a2 : Addr) (p6 : Int32) (a11 : Addr) (k13 : ClassId) (p14 : Int32) (p15 : Int32) (a19 : Addr) (a24 : Addr) (k26 : ClassId) (p27 : Int32) (p28 : Int32) (h0 : Heap) (n0 : Nat) (Z0 : n0 ≤ h0.size) (f3 : Fld Z h0 a1 cC0 "article" cC1 (VR a2)) (f5 : Exa Z h0 a2 cC3) (f7 : Sta Z Z.heap "java/lang/String" "COMPACT_STRINGS" "Z" (.int p6)) (f8 : Old Z n0 h0) (f9 : ¬ (p6 = (0 : Int32))) (f10 : Fld Z h0 a2 cC3 "coder" "B" (VI 0)) (f12 : Fld Z h0 a2 cC3 "value" "[B" (VR a11)) (f16 : Arv Z h0 a11 k13 .byte 2 [VI p14, VI p15] (VI 0)) (f18 : (own_f23_m17 (63 : Int32) p14 p15) < (0 : Int32)) (f20 : Fld Z h0 a1 cC0 "clause" cC1 (VR a19)) (f22 : Exa Z h0 a19 cC3) (f23 : Fld Z h0 a19 cC3 "coder" "B" (VI 0)) (f25 : Fld Z h0 a19 cC3 "value" "[B" (VR a24)) (f29 : Arv Z h0 a24 k26 .byte 2 [VI p27, VI p28] (VI 0)) (f31 : (own_f23_m17 (63 : Int32) p27 p28) < (0 : Int32)) :
    MetFree l yM17 (head1 (Jvm.Cond.code yM17 prog_105_method_2_code 1 (some .boolean) :: ws) ({ frames := 4, cells := 0, slots := 0, locals := 59 } : Room)) (fun a U => a = #[(.ref a1)] ∧ Z.Warmed39 U.vm ∧ U.heap = h0) (fun _ _ _ _ _ => True) (fun _ U o U' => ∃ v L, o = .returned v ∧ Q9_21 Z a1 a2 p6 a11 k13 p14 p15 a19 a24 k26 p27 p28 h0 n0 v U'.heap L ∧ FrameEnd U o U' L ({ frames := 4, cells := 0, slots := 0, locals := 59 } : Room).cells ({ frames := 4, cells := 0, slots := 0, locals := 59 } : Room).slots) := by
  refine own_enter (n0 := n0) (plainFor_of_name pn6) (fun m => ef9_21 m a1) ?_
  intro p e s m below meth c s₁ hx hby hml hown hnm hret hlk X0 e0 hZ hh N0
  show own_Fin p e below _ s₁ (mkF m 0 #[SR a1] [])
  refine own_go (fun _ k => XS.aloadN X0.here hx rfl (hb hby d9_0) rfl rfl k) ?_
  show own_Fin p e below _ s₁ (mkF m 1 #[SR a1] [VR a1])
  obtain ⟨T4, X4, e4, st4⟩ := getF X0 hx hZ hown (host := "") (Or.inl (WW hw 43)) Via.refl e0 f3 (g := (mkF m 1 #[SR a1] [VR a1])) rfl rfl (hb hby d9_1)
  refine own_go st4 ?_
  show own_Fin p e below _ T4 (mkF m 4 #[SR a1] [VR a2])
  refine own_go (fun _ k => XS.bipush X4.here hx rfl (hb hby d9_4) k) ?_
  show own_Fin p e below _ T4 (mkF m 6 #[SR a1] [VI 63, VR a2])
  obtain ⟨_, T17, L17, X17, hQ17, st17⟩ := own_cV X4 hx hZ hown (WW hw 57) (WW hw 58) (notFace_of_selects (args := #[]) (mvT hZ (WW hw 60))) (WW hw 60) (WW hw 59) (WW hw 12) (WW hw 61) (rm10_3 l Z a0 hw [] a2 (63 : Int32) p6 a11 k13 p14 p15 h0 n0 Z0 f5 f7 f8 f9 f10 f12 f16 (by decide : ¬ ((63 : Int32) < (0 : Int32))) (by decide : ¬ ((255 : Int32) < (63 : Int32)))) e4 f5 hml (g := (mkF m 6 #[SR a1] [VI 63, VR a2])) pd0 (hb hby d9_6) [VI 63] [] (W := 0)
  obtain ⟨rfl, N17q, e17⟩ := hQ17
  have N17 := Fr.app N0 N17q
  refine own_go st17 ?_
  show own_Fin p e below _ T17 (mkF m 9 #[SR a1] [VI (own_f23_m17 (63 : Int32) p14 p15)])
  refine own_go (fun _ k => XS.ifNo X17.here hx rfl (hb hby d9_9) rfl ((if0 _ _).trans (tlt f18).2.1) (XS.aloadN X17.here hx rfl (hb hby d9_12) rfl rfl k)) ?_
  show own_Fin p e below _ T17 (mkF m 13 #[SR a1] [VR a1])
  obtain ⟨T21, X21, e21, st21⟩ := getF X17 hx hZ hown (host := "") (Or.inl (WW hw 45)) Via.refl e17 f20 (g := (mkF m 13 #[SR a1] [VR a1])) rfl rfl (hb hby d9_13)
  refine own_go st21 ?_
  show own_Fin p e below _ T21 (mkF m 16 #[SR a1] [VR a19])
  refine own_go (fun _ k => XS.bipush X21.here hx rfl (hb hby d9_16) k) ?_
  show own_Fin p e below _ T21 (mkF m 18 #[SR a1] [VI 63, VR a19])
  obtain ⟨_, T30, L30, X30, hQ30, st30⟩ := own_cV X21 hx hZ hown (WW hw 57) (WW hw 58) (notFace_of_selects (args := #[]) (mvT hZ (WW hw 60))) (WW hw 60) (WW hw 59) (WW hw 12) (WW hw 61) (rm10_3 l Z a0 hw [] a19 (63 : Int32) p6 a24 k26 p27 p28 h0 n0 Z0 f22 f7 f8 f9 f23 f25 f29 (by decide : ¬ ((63 : Int32) < (0 : Int32))) (by decide : ¬ ((255 : Int32) < (63 : Int32)))) e21 f22 hml (g := (mkF m 18 #[SR a1] [VI 63, VR a19])) pd0 (hb hby d9_18) [VI 63] [] (W := 0)
  obtain ⟨rfl, N30q, e30⟩ := hQ30
  have N30 := Fr.app N17 N30q
  refine own_go st30 ?_
  show own_Fin p e below _ T30 (mkF m 21 #[SR a1] [VI (own_f23_m17 (63 : Int32) p27 p28)])
  refine own_go (fun _ k => XS.ifNo X30.here hx rfl (hb hby d9_21) rfl ((if0 _ _).trans (tlt f31).2.1) (XS.iconst X30.here hx rfl (hb hby d9_24) (XS.goto X30.here hx rfl (pc0 := 25) (pc' := 29) rfl (hb hby d9_25) (by decide) (by decide) k))) ?_
  show own_Fin p e below _ T30 (mkF m 29 #[SR a1] [VI 1])
  obtain ⟨fs, hr, hrun, hended, hW, hsame⟩ := X30.leave (v := some (.int (1 : Int32))) (fun h => by rw [hret] at h; cases h)
  refine own_end (retN X30 hx (t := .boolean) hret (by simp) (hb hby d9_29) hr) hrun hended ⟨_, _, rfl, ?_, ⟨_, rfl⟩, hW, hsame.mono (by decide) (by decide)⟩
  show Q9_21 Z a1 a2 p6 a11 k13 p14 p15 a19 a24 k26 p27 p28 h0 n0 _ T30.heap _
  rw [e30]
  exact ⟨rfl, N30, rfl⟩
theorem ef9_22 (m : MethodId) (a1 : Addr) : entryFrame m #[(.ref a1)] 1 = mkF m 0 #[SR a1] [] := by first | (simp [entryFrame, mkF, argsToLocals, Value.category]; done) | rfl
def Q9_22 (Z : State) (a1 : Addr) (a2 : Addr) (p6 : Int32) (a11 : Addr) (k13 : ClassId) (p14 : Int32) (p15 : Int32) (a19 : Addr) (a24 : Addr) (k26 : ClassId) (p27 : Int32) (p28 : Int32) (p29 : Int32) (h0 : Heap) (n0 : Nat) (v : Option Value) (h : Heap) (L : List Loc) : Prop := v = some (.int (0 : Int32)) ∧ Fr n0 L ∧ h = h0
set_option maxRecDepth 65536 in
set_option maxHeartbeats 40000000 in
theorem rm9_22 (l : Launch) (Z : State) (a0 : Array Value) (hw : HW a0 Z) (ws : List Jvm.Cond) (a1 : Addr) (a2 : Addr) (p6 : Int32) (a11 : Addr) (k13 : ClassId) (p14 : Int32) (p15 : Int32) (a19 : Addr) (a24 : Addr) (k26 : ClassId) (p27 : Int32) (p28 : Int32) (p29 : Int32) (h0 : Heap) (n0 : Nat) (Z0 : n0 ≤ h0.size) (f3 : Fld Z h0 a1 cC0 "article" cC1 (VR a2)) (f5 : Exa Z h0 a2 cC3) (f7 : Sta Z Z.heap "java/lang/String" "COMPACT_STRINGS" "Z" (.int p6)) (f8 : Old Z n0 h0) (f9 : ¬ (p6 = (0 : Int32))) (f10 : Fld Z h0 a2 cC3 "coder" "B" (VI 0)) (f12 : Fld Z h0 a2 cC3 "value" "[B" (VR a11)) (f16 : Arv Z h0 a11 k13 .byte 2 [VI p14, VI p15] (VI 0)) (f18 : (own_f23_m17 (63 : Int32) p14 p15) < (0 : Int32)) (f20 : Fld Z h0 a1 cC0 "clause" cC1 (VR a19)) (f22 : Exa Z h0 a19 cC3) (f23 : Fld Z h0 a19 cC3 "coder" "B" (VI 0)) (f25 : Fld Z h0 a19 cC3 "value" "[B" (VR a24)) (f30 : Arv Z h0 a24 k26 .byte 3 [VI p27, VI p28, VI p29] (VI 0)) (f32 : ¬ ((own_f23_m22 (63 : Int32) p27 p28 p29) < (0 : Int32))) :
    MetFree l yM17 (head1 (Jvm.Cond.code yM17 prog_105_method_2_code 1 (some .boolean) :: ws) ({ frames := 4, cells := 0, slots := 0, locals := 59 } : Room)) (fun a U => a = #[(.ref a1)] ∧ Z.Warmed39 U.vm ∧ U.heap = h0) (fun _ _ _ _ _ => True) (fun _ U o U' => ∃ v L, o = .returned v ∧ Q9_22 Z a1 a2 p6 a11 k13 p14 p15 a19 a24 k26 p27 p28 p29 h0 n0 v U'.heap L ∧ FrameEnd U o U' L ({ frames := 4, cells := 0, slots := 0, locals := 59 } : Room).cells ({ frames := 4, cells := 0, slots := 0, locals := 59 } : Room).slots) := by
  refine own_enter (n0 := n0) (plainFor_of_name pn6) (fun m => ef9_22 m a1) ?_
  intro p e s m below meth c s₁ hx hby hml hown hnm hret hlk X0 e0 hZ hh N0
  show own_Fin p e below _ s₁ (mkF m 0 #[SR a1] [])
  refine own_go (fun _ k => XS.aloadN X0.here hx rfl (hb hby d9_0) rfl rfl k) ?_
  show own_Fin p e below _ s₁ (mkF m 1 #[SR a1] [VR a1])
  obtain ⟨T4, X4, e4, st4⟩ := getF X0 hx hZ hown (host := "") (Or.inl (WW hw 43)) Via.refl e0 f3 (g := (mkF m 1 #[SR a1] [VR a1])) rfl rfl (hb hby d9_1)
  refine own_go st4 ?_
  show own_Fin p e below _ T4 (mkF m 4 #[SR a1] [VR a2])
  refine own_go (fun _ k => XS.bipush X4.here hx rfl (hb hby d9_4) k) ?_
  show own_Fin p e below _ T4 (mkF m 6 #[SR a1] [VI 63, VR a2])
  obtain ⟨_, T17, L17, X17, hQ17, st17⟩ := own_cV X4 hx hZ hown (WW hw 57) (WW hw 58) (notFace_of_selects (args := #[]) (mvT hZ (WW hw 60))) (WW hw 60) (WW hw 59) (WW hw 12) (WW hw 61) (rm10_3 l Z a0 hw [] a2 (63 : Int32) p6 a11 k13 p14 p15 h0 n0 Z0 f5 f7 f8 f9 f10 f12 f16 (by decide : ¬ ((63 : Int32) < (0 : Int32))) (by decide : ¬ ((255 : Int32) < (63 : Int32)))) e4 f5 hml (g := (mkF m 6 #[SR a1] [VI 63, VR a2])) pd0 (hb hby d9_6) [VI 63] [] (W := 0)
  obtain ⟨rfl, N17q, e17⟩ := hQ17
  have N17 := Fr.app N0 N17q
  refine own_go st17 ?_
  show own_Fin p e below _ T17 (mkF m 9 #[SR a1] [VI (own_f23_m17 (63 : Int32) p14 p15)])
  refine own_go (fun _ k => XS.ifNo X17.here hx rfl (hb hby d9_9) rfl ((if0 _ _).trans (tlt f18).2.1) (XS.aloadN X17.here hx rfl (hb hby d9_12) rfl rfl k)) ?_
  show own_Fin p e below _ T17 (mkF m 13 #[SR a1] [VR a1])
  obtain ⟨T21, X21, e21, st21⟩ := getF X17 hx hZ hown (host := "") (Or.inl (WW hw 45)) Via.refl e17 f20 (g := (mkF m 13 #[SR a1] [VR a1])) rfl rfl (hb hby d9_13)
  refine own_go st21 ?_
  show own_Fin p e below _ T21 (mkF m 16 #[SR a1] [VR a19])
  refine own_go (fun _ k => XS.bipush X21.here hx rfl (hb hby d9_16) k) ?_
  show own_Fin p e below _ T21 (mkF m 18 #[SR a1] [VI 63, VR a19])
  obtain ⟨_, T31, L31, X31, hQ31, st31⟩ := own_cV X21 hx hZ hown (WW hw 57) (WW hw 58) (notFace_of_selects (args := #[]) (mvT hZ (WW hw 60))) (WW hw 60) (WW hw 59) (WW hw 12) (WW hw 61) (rm10_4 l Z a0 hw [] a19 (63 : Int32) p6 a24 k26 p27 p28 p29 h0 n0 Z0 f22 f7 f8 f9 f23 f25 f30 (by decide : ¬ ((63 : Int32) < (0 : Int32))) (by decide : ¬ ((255 : Int32) < (63 : Int32)))) e21 f22 hml (g := (mkF m 18 #[SR a1] [VI 63, VR a19])) pd0 (hb hby d9_18) [VI 63] [] (W := 0)
  obtain ⟨rfl, N31q, e31⟩ := hQ31
  have N31 := Fr.app N17 N31q
  refine own_go st31 ?_
  show own_Fin p e below _ T31 (mkF m 21 #[SR a1] [VI (own_f23_m22 (63 : Int32) p27 p28 p29)])
  refine own_go (fun _ k => XS.ifYes X31.here hx rfl (pc0 := 21) (pc' := 28) rfl (hb hby d9_21) rfl ((if0 _ _).trans (flt f32).2.1) (by decide) (by decide) (XS.iconst X31.here hx rfl (hb hby d9_28) k)) ?_
  show own_Fin p e below _ T31 (mkF m 29 #[SR a1] [VI 0])
  obtain ⟨fs, hr, hrun, hended, hW, hsame⟩ := X31.leave (v := some (.int (0 : Int32))) (fun h => by rw [hret] at h; cases h)
  refine own_end (retN X31 hx (t := .boolean) hret (by simp) (hb hby d9_29) hr) hrun hended ⟨_, _, rfl, ?_, ⟨_, rfl⟩, hW, hsame.mono (by decide) (by decide)⟩
  show Q9_22 Z a1 a2 p6 a11 k13 p14 p15 a19 a24 k26 p27 p28 p29 h0 n0 _ T31.heap _
  rw [e31]
  exact ⟨rfl, N31, rfl⟩
theorem ef9_23 (m : MethodId) (a1 : Addr) : entryFrame m #[(.ref a1)] 1 = mkF m 0 #[SR a1] [] := by first | (simp [entryFrame, mkF, argsToLocals, Value.category]; done) | rfl
def Q9_23 (Z : State) (a1 : Addr) (a2 : Addr) (p6 : Int32) (a11 : Addr) (k13 : ClassId) (p14 : Int32) (p15 : Int32) (a19 : Addr) (a24 : Addr) (k26 : ClassId) (p27 : Int32) (p28 : Int32) (p29 : Int32) (h0 : Heap) (n0 : Nat) (v : Option Value) (h : Heap) (L : List Loc) : Prop := v = some (.int (1 : Int32)) ∧ Fr n0 L ∧ h = h0
set_option maxRecDepth 65536 in
set_option maxHeartbeats 40000000 in
theorem rm9_23 (l : Launch) (Z : State) (a0 : Array Value) (hw : HW a0 Z) (ws : List Jvm.Cond) (a1 : Addr) (a2 : Addr) (p6 : Int32) (a11 : Addr) (k13 : ClassId) (p14 : Int32) (p15 : Int32) (a19 : Addr) (a24 : Addr) (k26 : ClassId) (p27 : Int32) (p28 : Int32) (p29 : Int32) (h0 : Heap) (n0 : Nat) (Z0 : n0 ≤ h0.size) (f3 : Fld Z h0 a1 cC0 "article" cC1 (VR a2)) (f5 : Exa Z h0 a2 cC3) (f7 : Sta Z Z.heap "java/lang/String" "COMPACT_STRINGS" "Z" (.int p6)) (f8 : Old Z n0 h0) (f9 : ¬ (p6 = (0 : Int32))) (f10 : Fld Z h0 a2 cC3 "coder" "B" (VI 0)) (f12 : Fld Z h0 a2 cC3 "value" "[B" (VR a11)) (f16 : Arv Z h0 a11 k13 .byte 2 [VI p14, VI p15] (VI 0)) (f18 : (own_f23_m17 (63 : Int32) p14 p15) < (0 : Int32)) (f20 : Fld Z h0 a1 cC0 "clause" cC1 (VR a19)) (f22 : Exa Z h0 a19 cC3) (f23 : Fld Z h0 a19 cC3 "coder" "B" (VI 0)) (f25 : Fld Z h0 a19 cC3 "value" "[B" (VR a24)) (f30 : Arv Z h0 a24 k26 .byte 3 [VI p27, VI p28, VI p29] (VI 0)) (f32 : (own_f23_m22 (63 : Int32) p27 p28 p29) < (0 : Int32)) :
    MetFree l yM17 (head1 (Jvm.Cond.code yM17 prog_105_method_2_code 1 (some .boolean) :: ws) ({ frames := 4, cells := 0, slots := 0, locals := 59 } : Room)) (fun a U => a = #[(.ref a1)] ∧ Z.Warmed39 U.vm ∧ U.heap = h0) (fun _ _ _ _ _ => True) (fun _ U o U' => ∃ v L, o = .returned v ∧ Q9_23 Z a1 a2 p6 a11 k13 p14 p15 a19 a24 k26 p27 p28 p29 h0 n0 v U'.heap L ∧ FrameEnd U o U' L ({ frames := 4, cells := 0, slots := 0, locals := 59 } : Room).cells ({ frames := 4, cells := 0, slots := 0, locals := 59 } : Room).slots) := by
  refine own_enter (n0 := n0) (plainFor_of_name pn6) (fun m => ef9_23 m a1) ?_
  intro p e s m below meth c s₁ hx hby hml hown hnm hret hlk X0 e0 hZ hh N0
  show own_Fin p e below _ s₁ (mkF m 0 #[SR a1] [])
  refine own_go (fun _ k => XS.aloadN X0.here hx rfl (hb hby d9_0) rfl rfl k) ?_
  show own_Fin p e below _ s₁ (mkF m 1 #[SR a1] [VR a1])
  obtain ⟨T4, X4, e4, st4⟩ := getF X0 hx hZ hown (host := "") (Or.inl (WW hw 43)) Via.refl e0 f3 (g := (mkF m 1 #[SR a1] [VR a1])) rfl rfl (hb hby d9_1)
  refine own_go st4 ?_
  show own_Fin p e below _ T4 (mkF m 4 #[SR a1] [VR a2])
  refine own_go (fun _ k => XS.bipush X4.here hx rfl (hb hby d9_4) k) ?_
  show own_Fin p e below _ T4 (mkF m 6 #[SR a1] [VI 63, VR a2])
  obtain ⟨_, T17, L17, X17, hQ17, st17⟩ := own_cV X4 hx hZ hown (WW hw 57) (WW hw 58) (notFace_of_selects (args := #[]) (mvT hZ (WW hw 60))) (WW hw 60) (WW hw 59) (WW hw 12) (WW hw 61) (rm10_3 l Z a0 hw [] a2 (63 : Int32) p6 a11 k13 p14 p15 h0 n0 Z0 f5 f7 f8 f9 f10 f12 f16 (by decide : ¬ ((63 : Int32) < (0 : Int32))) (by decide : ¬ ((255 : Int32) < (63 : Int32)))) e4 f5 hml (g := (mkF m 6 #[SR a1] [VI 63, VR a2])) pd0 (hb hby d9_6) [VI 63] [] (W := 0)
  obtain ⟨rfl, N17q, e17⟩ := hQ17
  have N17 := Fr.app N0 N17q
  refine own_go st17 ?_
  show own_Fin p e below _ T17 (mkF m 9 #[SR a1] [VI (own_f23_m17 (63 : Int32) p14 p15)])
  refine own_go (fun _ k => XS.ifNo X17.here hx rfl (hb hby d9_9) rfl ((if0 _ _).trans (tlt f18).2.1) (XS.aloadN X17.here hx rfl (hb hby d9_12) rfl rfl k)) ?_
  show own_Fin p e below _ T17 (mkF m 13 #[SR a1] [VR a1])
  obtain ⟨T21, X21, e21, st21⟩ := getF X17 hx hZ hown (host := "") (Or.inl (WW hw 45)) Via.refl e17 f20 (g := (mkF m 13 #[SR a1] [VR a1])) rfl rfl (hb hby d9_13)
  refine own_go st21 ?_
  show own_Fin p e below _ T21 (mkF m 16 #[SR a1] [VR a19])
  refine own_go (fun _ k => XS.bipush X21.here hx rfl (hb hby d9_16) k) ?_
  show own_Fin p e below _ T21 (mkF m 18 #[SR a1] [VI 63, VR a19])
  obtain ⟨_, T31, L31, X31, hQ31, st31⟩ := own_cV X21 hx hZ hown (WW hw 57) (WW hw 58) (notFace_of_selects (args := #[]) (mvT hZ (WW hw 60))) (WW hw 60) (WW hw 59) (WW hw 12) (WW hw 61) (rm10_4 l Z a0 hw [] a19 (63 : Int32) p6 a24 k26 p27 p28 p29 h0 n0 Z0 f22 f7 f8 f9 f23 f25 f30 (by decide : ¬ ((63 : Int32) < (0 : Int32))) (by decide : ¬ ((255 : Int32) < (63 : Int32)))) e21 f22 hml (g := (mkF m 18 #[SR a1] [VI 63, VR a19])) pd0 (hb hby d9_18) [VI 63] [] (W := 0)
  obtain ⟨rfl, N31q, e31⟩ := hQ31
  have N31 := Fr.app N17 N31q
  refine own_go st31 ?_
  show own_Fin p e below _ T31 (mkF m 21 #[SR a1] [VI (own_f23_m22 (63 : Int32) p27 p28 p29)])
  refine own_go (fun _ k => XS.ifNo X31.here hx rfl (hb hby d9_21) rfl ((if0 _ _).trans (tlt f32).2.1) (XS.iconst X31.here hx rfl (hb hby d9_24) (XS.goto X31.here hx rfl (pc0 := 25) (pc' := 29) rfl (hb hby d9_25) (by decide) (by decide) k))) ?_
  show own_Fin p e below _ T31 (mkF m 29 #[SR a1] [VI 1])
  obtain ⟨fs, hr, hrun, hended, hW, hsame⟩ := X31.leave (v := some (.int (1 : Int32))) (fun h => by rw [hret] at h; cases h)
  refine own_end (retN X31 hx (t := .boolean) hret (by simp) (hb hby d9_29) hr) hrun hended ⟨_, _, rfl, ?_, ⟨_, rfl⟩, hW, hsame.mono (by decide) (by decide)⟩
  show Q9_23 Z a1 a2 p6 a11 k13 p14 p15 a19 a24 k26 p27 p28 p29 h0 n0 _ T31.heap _
  rw [e31]
  exact ⟨rfl, N31, rfl⟩
theorem ef9_24 (m : MethodId) (a1 : Addr) : entryFrame m #[(.ref a1)] 1 = mkF m 0 #[SR a1] [] := by first | (simp [entryFrame, mkF, argsToLocals, Value.category]; done) | rfl
def Q9_24 (Z : State) (a1 : Addr) (a2 : Addr) (p6 : Int32) (a11 : Addr) (k13 : ClassId) (p14 : Int32) (p15 : Int32) (p16 : Int32) (h0 : Heap) (n0 : Nat) (v : Option Value) (h : Heap) (L : List Loc) : Prop := v = some (.int (0 : Int32)) ∧ Fr n0 L ∧ h = h0
set_option maxRecDepth 65536 in
set_option maxHeartbeats 40000000 in
theorem rm9_24 (l : Launch) (Z : State) (a0 : Array Value) (hw : HW a0 Z) (ws : List Jvm.Cond) (a1 : Addr) (a2 : Addr) (p6 : Int32) (a11 : Addr) (k13 : ClassId) (p14 : Int32) (p15 : Int32) (p16 : Int32) (h0 : Heap) (n0 : Nat) (Z0 : n0 ≤ h0.size) (f3 : Fld Z h0 a1 cC0 "article" cC1 (VR a2)) (f5 : Exa Z h0 a2 cC3) (f7 : Sta Z Z.heap "java/lang/String" "COMPACT_STRINGS" "Z" (.int p6)) (f8 : Old Z n0 h0) (f9 : ¬ (p6 = (0 : Int32))) (f10 : Fld Z h0 a2 cC3 "coder" "B" (VI 0)) (f12 : Fld Z h0 a2 cC3 "value" "[B" (VR a11)) (f17 : Arv Z h0 a11 k13 .byte 3 [VI p14, VI p15, VI p16] (VI 0)) (f19 : ¬ ((own_f23_m22 (63 : Int32) p14 p15 p16) < (0 : Int32))) :
    MetFree l yM17 (head1 (Jvm.Cond.code yM17 prog_105_method_2_code 1 (some .boolean) :: ws) ({ frames := 4, cells := 0, slots := 0, locals := 59 } : Room)) (fun a U => a = #[(.ref a1)] ∧ Z.Warmed39 U.vm ∧ U.heap = h0) (fun _ _ _ _ _ => True) (fun _ U o U' => ∃ v L, o = .returned v ∧ Q9_24 Z a1 a2 p6 a11 k13 p14 p15 p16 h0 n0 v U'.heap L ∧ FrameEnd U o U' L ({ frames := 4, cells := 0, slots := 0, locals := 59 } : Room).cells ({ frames := 4, cells := 0, slots := 0, locals := 59 } : Room).slots) := by
  refine own_enter (n0 := n0) (plainFor_of_name pn6) (fun m => ef9_24 m a1) ?_
  intro p e s m below meth c s₁ hx hby hml hown hnm hret hlk X0 e0 hZ hh N0
  show own_Fin p e below _ s₁ (mkF m 0 #[SR a1] [])
  refine own_go (fun _ k => XS.aloadN X0.here hx rfl (hb hby d9_0) rfl rfl k) ?_
  show own_Fin p e below _ s₁ (mkF m 1 #[SR a1] [VR a1])
  obtain ⟨T4, X4, e4, st4⟩ := getF X0 hx hZ hown (host := "") (Or.inl (WW hw 43)) Via.refl e0 f3 (g := (mkF m 1 #[SR a1] [VR a1])) rfl rfl (hb hby d9_1)
  refine own_go st4 ?_
  show own_Fin p e below _ T4 (mkF m 4 #[SR a1] [VR a2])
  refine own_go (fun _ k => XS.bipush X4.here hx rfl (hb hby d9_4) k) ?_
  show own_Fin p e below _ T4 (mkF m 6 #[SR a1] [VI 63, VR a2])
  obtain ⟨_, T18, L18, X18, hQ18, st18⟩ := own_cV X4 hx hZ hown (WW hw 57) (WW hw 58) (notFace_of_selects (args := #[]) (mvT hZ (WW hw 60))) (WW hw 60) (WW hw 59) (WW hw 12) (WW hw 61) (rm10_4 l Z a0 hw [] a2 (63 : Int32) p6 a11 k13 p14 p15 p16 h0 n0 Z0 f5 f7 f8 f9 f10 f12 f17 (by decide : ¬ ((63 : Int32) < (0 : Int32))) (by decide : ¬ ((255 : Int32) < (63 : Int32)))) e4 f5 hml (g := (mkF m 6 #[SR a1] [VI 63, VR a2])) pd0 (hb hby d9_6) [VI 63] [] (W := 0)
  obtain ⟨rfl, N18q, e18⟩ := hQ18
  have N18 := Fr.app N0 N18q
  refine own_go st18 ?_
  show own_Fin p e below _ T18 (mkF m 9 #[SR a1] [VI (own_f23_m22 (63 : Int32) p14 p15 p16)])
  refine own_go (fun _ k => XS.ifYes X18.here hx rfl (pc0 := 9) (pc' := 28) rfl (hb hby d9_9) rfl ((if0 _ _).trans (flt f19).2.1) (by decide) (by decide) (XS.iconst X18.here hx rfl (hb hby d9_28) k)) ?_
  show own_Fin p e below _ T18 (mkF m 29 #[SR a1] [VI 0])
  obtain ⟨fs, hr, hrun, hended, hW, hsame⟩ := X18.leave (v := some (.int (0 : Int32))) (fun h => by rw [hret] at h; cases h)
  refine own_end (retN X18 hx (t := .boolean) hret (by simp) (hb hby d9_29) hr) hrun hended ⟨_, _, rfl, ?_, ⟨_, rfl⟩, hW, hsame.mono (by decide) (by decide)⟩
  show Q9_24 Z a1 a2 p6 a11 k13 p14 p15 p16 h0 n0 _ T18.heap _
  rw [e18]
  exact ⟨rfl, N18, rfl⟩
theorem ef9_25 (m : MethodId) (a1 : Addr) : entryFrame m #[(.ref a1)] 1 = mkF m 0 #[SR a1] [] := by first | (simp [entryFrame, mkF, argsToLocals, Value.category]; done) | rfl
def Q9_25 (Z : State) (a1 : Addr) (a2 : Addr) (p6 : Int32) (a11 : Addr) (k13 : ClassId) (p14 : Int32) (p15 : Int32) (p16 : Int32) (a20 : Addr) (a25 : Addr) (k27 : ClassId) (h0 : Heap) (n0 : Nat) (v : Option Value) (h : Heap) (L : List Loc) : Prop := v = some (.int (1 : Int32)) ∧ Fr n0 L ∧ h = h0
set_option maxRecDepth 65536 in
set_option maxHeartbeats 40000000 in
theorem rm9_25 (l : Launch) (Z : State) (a0 : Array Value) (hw : HW a0 Z) (ws : List Jvm.Cond) (a1 : Addr) (a2 : Addr) (p6 : Int32) (a11 : Addr) (k13 : ClassId) (p14 : Int32) (p15 : Int32) (p16 : Int32) (a20 : Addr) (a25 : Addr) (k27 : ClassId) (h0 : Heap) (n0 : Nat) (Z0 : n0 ≤ h0.size) (f3 : Fld Z h0 a1 cC0 "article" cC1 (VR a2)) (f5 : Exa Z h0 a2 cC3) (f7 : Sta Z Z.heap "java/lang/String" "COMPACT_STRINGS" "Z" (.int p6)) (f8 : Old Z n0 h0) (f9 : ¬ (p6 = (0 : Int32))) (f10 : Fld Z h0 a2 cC3 "coder" "B" (VI 0)) (f12 : Fld Z h0 a2 cC3 "value" "[B" (VR a11)) (f17 : Arv Z h0 a11 k13 .byte 3 [VI p14, VI p15, VI p16] (VI 0)) (f19 : (own_f23_m22 (63 : Int32) p14 p15 p16) < (0 : Int32)) (f21 : Fld Z h0 a1 cC0 "clause" cC1 (VR a20)) (f23 : Exa Z h0 a20 cC3) (f24 : Fld Z h0 a20 cC3 "coder" "B" (VI 0)) (f26 : Fld Z h0 a20 cC3 "value" "[B" (VR a25)) (f28 : Arv Z h0 a25 k27 .byte 0 [] (VI 0)) :
    MetFree l yM17 (head1 (Jvm.Cond.code yM17 prog_105_method_2_code 1 (some .boolean) :: ws) ({ frames := 4, cells := 0, slots := 0, locals := 59 } : Room)) (fun a U => a = #[(.ref a1)] ∧ Z.Warmed39 U.vm ∧ U.heap = h0) (fun _ _ _ _ _ => True) (fun _ U o U' => ∃ v L, o = .returned v ∧ Q9_25 Z a1 a2 p6 a11 k13 p14 p15 p16 a20 a25 k27 h0 n0 v U'.heap L ∧ FrameEnd U o U' L ({ frames := 4, cells := 0, slots := 0, locals := 59 } : Room).cells ({ frames := 4, cells := 0, slots := 0, locals := 59 } : Room).slots) := by
  refine own_enter (n0 := n0) (plainFor_of_name pn6) (fun m => ef9_25 m a1) ?_
  intro p e s m below meth c s₁ hx hby hml hown hnm hret hlk X0 e0 hZ hh N0
  show own_Fin p e below _ s₁ (mkF m 0 #[SR a1] [])
  refine own_go (fun _ k => XS.aloadN X0.here hx rfl (hb hby d9_0) rfl rfl k) ?_
  show own_Fin p e below _ s₁ (mkF m 1 #[SR a1] [VR a1])
  obtain ⟨T4, X4, e4, st4⟩ := getF X0 hx hZ hown (host := "") (Or.inl (WW hw 43)) Via.refl e0 f3 (g := (mkF m 1 #[SR a1] [VR a1])) rfl rfl (hb hby d9_1)
  refine own_go st4 ?_
  show own_Fin p e below _ T4 (mkF m 4 #[SR a1] [VR a2])
  refine own_go (fun _ k => XS.bipush X4.here hx rfl (hb hby d9_4) k) ?_
  show own_Fin p e below _ T4 (mkF m 6 #[SR a1] [VI 63, VR a2])
  obtain ⟨_, T18, L18, X18, hQ18, st18⟩ := own_cV X4 hx hZ hown (WW hw 57) (WW hw 58) (notFace_of_selects (args := #[]) (mvT hZ (WW hw 60))) (WW hw 60) (WW hw 59) (WW hw 12) (WW hw 61) (rm10_4 l Z a0 hw [] a2 (63 : Int32) p6 a11 k13 p14 p15 p16 h0 n0 Z0 f5 f7 f8 f9 f10 f12 f17 (by decide : ¬ ((63 : Int32) < (0 : Int32))) (by decide : ¬ ((255 : Int32) < (63 : Int32)))) e4 f5 hml (g := (mkF m 6 #[SR a1] [VI 63, VR a2])) pd0 (hb hby d9_6) [VI 63] [] (W := 0)
  obtain ⟨rfl, N18q, e18⟩ := hQ18
  have N18 := Fr.app N0 N18q
  refine own_go st18 ?_
  show own_Fin p e below _ T18 (mkF m 9 #[SR a1] [VI (own_f23_m22 (63 : Int32) p14 p15 p16)])
  refine own_go (fun _ k => XS.ifNo X18.here hx rfl (hb hby d9_9) rfl ((if0 _ _).trans (tlt f19).2.1) (XS.aloadN X18.here hx rfl (hb hby d9_12) rfl rfl k)) ?_
  show own_Fin p e below _ T18 (mkF m 13 #[SR a1] [VR a1])
  obtain ⟨T22, X22, e22, st22⟩ := getF X18 hx hZ hown (host := "") (Or.inl (WW hw 45)) Via.refl e18 f21 (g := (mkF m 13 #[SR a1] [VR a1])) rfl rfl (hb hby d9_13)
  refine own_go st22 ?_
  show own_Fin p e below _ T22 (mkF m 16 #[SR a1] [VR a20])
  refine own_go (fun _ k => XS.bipush X22.here hx rfl (hb hby d9_16) k) ?_
  show own_Fin p e below _ T22 (mkF m 18 #[SR a1] [VI 63, VR a20])
  obtain ⟨_, T29, L29, X29, hQ29, st29⟩ := own_cV X22 hx hZ hown (WW hw 57) (WW hw 58) (notFace_of_selects (args := #[]) (mvT hZ (WW hw 60))) (WW hw 60) (WW hw 59) (WW hw 12) (WW hw 61) (rm10_1 l Z a0 hw [] a20 (63 : Int32) p6 a25 k27 h0 n0 Z0 f23 f7 f8 f9 f24 f26 f28 (by decide : ¬ ((63 : Int32) < (0 : Int32))) (by decide : ¬ ((255 : Int32) < (63 : Int32)))) e22 f23 hml (g := (mkF m 18 #[SR a1] [VI 63, VR a20])) pd0 (hb hby d9_18) [VI 63] [] (W := 0)
  obtain ⟨rfl, N29q, e29⟩ := hQ29
  have N29 := Fr.app N18 N29q
  refine own_go st29 ?_
  show own_Fin p e below _ T29 (mkF m 21 #[SR a1] [VI (-1)])
  refine own_go (fun _ k => XS.ifNo X29.here hx rfl (hb hby d9_21) rfl ((if0 _ _).trans (tlt (by decide : (-1 : Int32) < (0 : Int32))).2.1) (XS.iconst X29.here hx rfl (hb hby d9_24) (XS.goto X29.here hx rfl (pc0 := 25) (pc' := 29) rfl (hb hby d9_25) (by decide) (by decide) k))) ?_
  show own_Fin p e below _ T29 (mkF m 29 #[SR a1] [VI 1])
  obtain ⟨fs, hr, hrun, hended, hW, hsame⟩ := X29.leave (v := some (.int (1 : Int32))) (fun h => by rw [hret] at h; cases h)
  refine own_end (retN X29 hx (t := .boolean) hret (by simp) (hb hby d9_29) hr) hrun hended ⟨_, _, rfl, ?_, ⟨_, rfl⟩, hW, hsame.mono (by decide) (by decide)⟩
  show Q9_25 Z a1 a2 p6 a11 k13 p14 p15 p16 a20 a25 k27 h0 n0 _ T29.heap _
  rw [e29]
  exact ⟨rfl, N29, rfl⟩
theorem ef9_26 (m : MethodId) (a1 : Addr) : entryFrame m #[(.ref a1)] 1 = mkF m 0 #[SR a1] [] := by first | (simp [entryFrame, mkF, argsToLocals, Value.category]; done) | rfl
def Q9_26 (Z : State) (a1 : Addr) (a2 : Addr) (p6 : Int32) (a11 : Addr) (k13 : ClassId) (p14 : Int32) (p15 : Int32) (p16 : Int32) (a20 : Addr) (a25 : Addr) (k27 : ClassId) (p28 : Int32) (h0 : Heap) (n0 : Nat) (v : Option Value) (h : Heap) (L : List Loc) : Prop := v = some (.int (0 : Int32)) ∧ Fr n0 L ∧ h = h0
set_option maxRecDepth 65536 in
set_option maxHeartbeats 40000000 in
theorem rm9_26 (l : Launch) (Z : State) (a0 : Array Value) (hw : HW a0 Z) (ws : List Jvm.Cond) (a1 : Addr) (a2 : Addr) (p6 : Int32) (a11 : Addr) (k13 : ClassId) (p14 : Int32) (p15 : Int32) (p16 : Int32) (a20 : Addr) (a25 : Addr) (k27 : ClassId) (p28 : Int32) (h0 : Heap) (n0 : Nat) (Z0 : n0 ≤ h0.size) (f3 : Fld Z h0 a1 cC0 "article" cC1 (VR a2)) (f5 : Exa Z h0 a2 cC3) (f7 : Sta Z Z.heap "java/lang/String" "COMPACT_STRINGS" "Z" (.int p6)) (f8 : Old Z n0 h0) (f9 : ¬ (p6 = (0 : Int32))) (f10 : Fld Z h0 a2 cC3 "coder" "B" (VI 0)) (f12 : Fld Z h0 a2 cC3 "value" "[B" (VR a11)) (f17 : Arv Z h0 a11 k13 .byte 3 [VI p14, VI p15, VI p16] (VI 0)) (f19 : (own_f23_m22 (63 : Int32) p14 p15 p16) < (0 : Int32)) (f21 : Fld Z h0 a1 cC0 "clause" cC1 (VR a20)) (f23 : Exa Z h0 a20 cC3) (f24 : Fld Z h0 a20 cC3 "coder" "B" (VI 0)) (f26 : Fld Z h0 a20 cC3 "value" "[B" (VR a25)) (f29 : Arv Z h0 a25 k27 .byte 1 [VI p28] (VI 0)) (f31 : ¬ ((own_f23_m12 (63 : Int32) p28) < (0 : Int32))) :
    MetFree l yM17 (head1 (Jvm.Cond.code yM17 prog_105_method_2_code 1 (some .boolean) :: ws) ({ frames := 4, cells := 0, slots := 0, locals := 59 } : Room)) (fun a U => a = #[(.ref a1)] ∧ Z.Warmed39 U.vm ∧ U.heap = h0) (fun _ _ _ _ _ => True) (fun _ U o U' => ∃ v L, o = .returned v ∧ Q9_26 Z a1 a2 p6 a11 k13 p14 p15 p16 a20 a25 k27 p28 h0 n0 v U'.heap L ∧ FrameEnd U o U' L ({ frames := 4, cells := 0, slots := 0, locals := 59 } : Room).cells ({ frames := 4, cells := 0, slots := 0, locals := 59 } : Room).slots) := by
  refine own_enter (n0 := n0) (plainFor_of_name pn6) (fun m => ef9_26 m a1) ?_
  intro p e s m below meth c s₁ hx hby hml hown hnm hret hlk X0 e0 hZ hh N0
  show own_Fin p e below _ s₁ (mkF m 0 #[SR a1] [])
  refine own_go (fun _ k => XS.aloadN X0.here hx rfl (hb hby d9_0) rfl rfl k) ?_
  show own_Fin p e below _ s₁ (mkF m 1 #[SR a1] [VR a1])
  obtain ⟨T4, X4, e4, st4⟩ := getF X0 hx hZ hown (host := "") (Or.inl (WW hw 43)) Via.refl e0 f3 (g := (mkF m 1 #[SR a1] [VR a1])) rfl rfl (hb hby d9_1)
  refine own_go st4 ?_
  show own_Fin p e below _ T4 (mkF m 4 #[SR a1] [VR a2])
  refine own_go (fun _ k => XS.bipush X4.here hx rfl (hb hby d9_4) k) ?_
  show own_Fin p e below _ T4 (mkF m 6 #[SR a1] [VI 63, VR a2])
  obtain ⟨_, T18, L18, X18, hQ18, st18⟩ := own_cV X4 hx hZ hown (WW hw 57) (WW hw 58) (notFace_of_selects (args := #[]) (mvT hZ (WW hw 60))) (WW hw 60) (WW hw 59) (WW hw 12) (WW hw 61) (rm10_4 l Z a0 hw [] a2 (63 : Int32) p6 a11 k13 p14 p15 p16 h0 n0 Z0 f5 f7 f8 f9 f10 f12 f17 (by decide : ¬ ((63 : Int32) < (0 : Int32))) (by decide : ¬ ((255 : Int32) < (63 : Int32)))) e4 f5 hml (g := (mkF m 6 #[SR a1] [VI 63, VR a2])) pd0 (hb hby d9_6) [VI 63] [] (W := 0)
  obtain ⟨rfl, N18q, e18⟩ := hQ18
  have N18 := Fr.app N0 N18q
  refine own_go st18 ?_
  show own_Fin p e below _ T18 (mkF m 9 #[SR a1] [VI (own_f23_m22 (63 : Int32) p14 p15 p16)])
  refine own_go (fun _ k => XS.ifNo X18.here hx rfl (hb hby d9_9) rfl ((if0 _ _).trans (tlt f19).2.1) (XS.aloadN X18.here hx rfl (hb hby d9_12) rfl rfl k)) ?_
  show own_Fin p e below _ T18 (mkF m 13 #[SR a1] [VR a1])
  obtain ⟨T22, X22, e22, st22⟩ := getF X18 hx hZ hown (host := "") (Or.inl (WW hw 45)) Via.refl e18 f21 (g := (mkF m 13 #[SR a1] [VR a1])) rfl rfl (hb hby d9_13)
  refine own_go st22 ?_
  show own_Fin p e below _ T22 (mkF m 16 #[SR a1] [VR a20])
  refine own_go (fun _ k => XS.bipush X22.here hx rfl (hb hby d9_16) k) ?_
  show own_Fin p e below _ T22 (mkF m 18 #[SR a1] [VI 63, VR a20])
  obtain ⟨_, T30, L30, X30, hQ30, st30⟩ := own_cV X22 hx hZ hown (WW hw 57) (WW hw 58) (notFace_of_selects (args := #[]) (mvT hZ (WW hw 60))) (WW hw 60) (WW hw 59) (WW hw 12) (WW hw 61) (rm10_2 l Z a0 hw [] a20 (63 : Int32) p6 a25 k27 p28 h0 n0 Z0 f23 f7 f8 f9 f24 f26 f29 (by decide : ¬ ((63 : Int32) < (0 : Int32))) (by decide : ¬ ((255 : Int32) < (63 : Int32)))) e22 f23 hml (g := (mkF m 18 #[SR a1] [VI 63, VR a20])) pd0 (hb hby d9_18) [VI 63] [] (W := 0)
  obtain ⟨rfl, N30q, e30⟩ := hQ30
  have N30 := Fr.app N18 N30q
  refine own_go st30 ?_
  show own_Fin p e below _ T30 (mkF m 21 #[SR a1] [VI (own_f23_m12 (63 : Int32) p28)])
  refine own_go (fun _ k => XS.ifYes X30.here hx rfl (pc0 := 21) (pc' := 28) rfl (hb hby d9_21) rfl ((if0 _ _).trans (flt f31).2.1) (by decide) (by decide) (XS.iconst X30.here hx rfl (hb hby d9_28) k)) ?_
  show own_Fin p e below _ T30 (mkF m 29 #[SR a1] [VI 0])
  obtain ⟨fs, hr, hrun, hended, hW, hsame⟩ := X30.leave (v := some (.int (0 : Int32))) (fun h => by rw [hret] at h; cases h)
  refine own_end (retN X30 hx (t := .boolean) hret (by simp) (hb hby d9_29) hr) hrun hended ⟨_, _, rfl, ?_, ⟨_, rfl⟩, hW, hsame.mono (by decide) (by decide)⟩
  show Q9_26 Z a1 a2 p6 a11 k13 p14 p15 p16 a20 a25 k27 p28 h0 n0 _ T30.heap _
  rw [e30]
  exact ⟨rfl, N30, rfl⟩
theorem ef9_27 (m : MethodId) (a1 : Addr) : entryFrame m #[(.ref a1)] 1 = mkF m 0 #[SR a1] [] := by first | (simp [entryFrame, mkF, argsToLocals, Value.category]; done) | rfl
def Q9_27 (Z : State) (a1 : Addr) (a2 : Addr) (p6 : Int32) (a11 : Addr) (k13 : ClassId) (p14 : Int32) (p15 : Int32) (p16 : Int32) (a20 : Addr) (a25 : Addr) (k27 : ClassId) (p28 : Int32) (h0 : Heap) (n0 : Nat) (v : Option Value) (h : Heap) (L : List Loc) : Prop := v = some (.int (1 : Int32)) ∧ Fr n0 L ∧ h = h0
set_option maxRecDepth 65536 in
set_option maxHeartbeats 40000000 in
theorem rm9_27 (l : Launch) (Z : State) (a0 : Array Value) (hw : HW a0 Z) (ws : List Jvm.Cond) (a1 : Addr) (a2 : Addr) (p6 : Int32) (a11 : Addr) (k13 : ClassId) (p14 : Int32) (p15 : Int32) (p16 : Int32) (a20 : Addr) (a25 : Addr) (k27 : ClassId) (p28 : Int32) (h0 : Heap) (n0 : Nat) (Z0 : n0 ≤ h0.size) (f3 : Fld Z h0 a1 cC0 "article" cC1 (VR a2)) (f5 : Exa Z h0 a2 cC3) (f7 : Sta Z Z.heap "java/lang/String" "COMPACT_STRINGS" "Z" (.int p6)) (f8 : Old Z n0 h0) (f9 : ¬ (p6 = (0 : Int32))) (f10 : Fld Z h0 a2 cC3 "coder" "B" (VI 0)) (f12 : Fld Z h0 a2 cC3 "value" "[B" (VR a11)) (f17 : Arv Z h0 a11 k13 .byte 3 [VI p14, VI p15, VI p16] (VI 0)) (f19 : (own_f23_m22 (63 : Int32) p14 p15 p16) < (0 : Int32)) (f21 : Fld Z h0 a1 cC0 "clause" cC1 (VR a20)) (f23 : Exa Z h0 a20 cC3) (f24 : Fld Z h0 a20 cC3 "coder" "B" (VI 0)) (f26 : Fld Z h0 a20 cC3 "value" "[B" (VR a25)) (f29 : Arv Z h0 a25 k27 .byte 1 [VI p28] (VI 0)) (f31 : (own_f23_m12 (63 : Int32) p28) < (0 : Int32)) :
    MetFree l yM17 (head1 (Jvm.Cond.code yM17 prog_105_method_2_code 1 (some .boolean) :: ws) ({ frames := 4, cells := 0, slots := 0, locals := 59 } : Room)) (fun a U => a = #[(.ref a1)] ∧ Z.Warmed39 U.vm ∧ U.heap = h0) (fun _ _ _ _ _ => True) (fun _ U o U' => ∃ v L, o = .returned v ∧ Q9_27 Z a1 a2 p6 a11 k13 p14 p15 p16 a20 a25 k27 p28 h0 n0 v U'.heap L ∧ FrameEnd U o U' L ({ frames := 4, cells := 0, slots := 0, locals := 59 } : Room).cells ({ frames := 4, cells := 0, slots := 0, locals := 59 } : Room).slots) := by
  refine own_enter (n0 := n0) (plainFor_of_name pn6) (fun m => ef9_27 m a1) ?_
  intro p e s m below meth c s₁ hx hby hml hown hnm hret hlk X0 e0 hZ hh N0
  show own_Fin p e below _ s₁ (mkF m 0 #[SR a1] [])
  refine own_go (fun _ k => XS.aloadN X0.here hx rfl (hb hby d9_0) rfl rfl k) ?_
  show own_Fin p e below _ s₁ (mkF m 1 #[SR a1] [VR a1])
  obtain ⟨T4, X4, e4, st4⟩ := getF X0 hx hZ hown (host := "") (Or.inl (WW hw 43)) Via.refl e0 f3 (g := (mkF m 1 #[SR a1] [VR a1])) rfl rfl (hb hby d9_1)
  refine own_go st4 ?_
  show own_Fin p e below _ T4 (mkF m 4 #[SR a1] [VR a2])
  refine own_go (fun _ k => XS.bipush X4.here hx rfl (hb hby d9_4) k) ?_
  show own_Fin p e below _ T4 (mkF m 6 #[SR a1] [VI 63, VR a2])
  obtain ⟨_, T18, L18, X18, hQ18, st18⟩ := own_cV X4 hx hZ hown (WW hw 57) (WW hw 58) (notFace_of_selects (args := #[]) (mvT hZ (WW hw 60))) (WW hw 60) (WW hw 59) (WW hw 12) (WW hw 61) (rm10_4 l Z a0 hw [] a2 (63 : Int32) p6 a11 k13 p14 p15 p16 h0 n0 Z0 f5 f7 f8 f9 f10 f12 f17 (by decide : ¬ ((63 : Int32) < (0 : Int32))) (by decide : ¬ ((255 : Int32) < (63 : Int32)))) e4 f5 hml (g := (mkF m 6 #[SR a1] [VI 63, VR a2])) pd0 (hb hby d9_6) [VI 63] [] (W := 0)
  obtain ⟨rfl, N18q, e18⟩ := hQ18
  have N18 := Fr.app N0 N18q
  refine own_go st18 ?_
  show own_Fin p e below _ T18 (mkF m 9 #[SR a1] [VI (own_f23_m22 (63 : Int32) p14 p15 p16)])
  refine own_go (fun _ k => XS.ifNo X18.here hx rfl (hb hby d9_9) rfl ((if0 _ _).trans (tlt f19).2.1) (XS.aloadN X18.here hx rfl (hb hby d9_12) rfl rfl k)) ?_
  show own_Fin p e below _ T18 (mkF m 13 #[SR a1] [VR a1])
  obtain ⟨T22, X22, e22, st22⟩ := getF X18 hx hZ hown (host := "") (Or.inl (WW hw 45)) Via.refl e18 f21 (g := (mkF m 13 #[SR a1] [VR a1])) rfl rfl (hb hby d9_13)
  refine own_go st22 ?_
  show own_Fin p e below _ T22 (mkF m 16 #[SR a1] [VR a20])
  refine own_go (fun _ k => XS.bipush X22.here hx rfl (hb hby d9_16) k) ?_
  show own_Fin p e below _ T22 (mkF m 18 #[SR a1] [VI 63, VR a20])
  obtain ⟨_, T30, L30, X30, hQ30, st30⟩ := own_cV X22 hx hZ hown (WW hw 57) (WW hw 58) (notFace_of_selects (args := #[]) (mvT hZ (WW hw 60))) (WW hw 60) (WW hw 59) (WW hw 12) (WW hw 61) (rm10_2 l Z a0 hw [] a20 (63 : Int32) p6 a25 k27 p28 h0 n0 Z0 f23 f7 f8 f9 f24 f26 f29 (by decide : ¬ ((63 : Int32) < (0 : Int32))) (by decide : ¬ ((255 : Int32) < (63 : Int32)))) e22 f23 hml (g := (mkF m 18 #[SR a1] [VI 63, VR a20])) pd0 (hb hby d9_18) [VI 63] [] (W := 0)
  obtain ⟨rfl, N30q, e30⟩ := hQ30
  have N30 := Fr.app N18 N30q
  refine own_go st30 ?_
  show own_Fin p e below _ T30 (mkF m 21 #[SR a1] [VI (own_f23_m12 (63 : Int32) p28)])
  refine own_go (fun _ k => XS.ifNo X30.here hx rfl (hb hby d9_21) rfl ((if0 _ _).trans (tlt f31).2.1) (XS.iconst X30.here hx rfl (hb hby d9_24) (XS.goto X30.here hx rfl (pc0 := 25) (pc' := 29) rfl (hb hby d9_25) (by decide) (by decide) k))) ?_
  show own_Fin p e below _ T30 (mkF m 29 #[SR a1] [VI 1])
  obtain ⟨fs, hr, hrun, hended, hW, hsame⟩ := X30.leave (v := some (.int (1 : Int32))) (fun h => by rw [hret] at h; cases h)
  refine own_end (retN X30 hx (t := .boolean) hret (by simp) (hb hby d9_29) hr) hrun hended ⟨_, _, rfl, ?_, ⟨_, rfl⟩, hW, hsame.mono (by decide) (by decide)⟩
  show Q9_27 Z a1 a2 p6 a11 k13 p14 p15 p16 a20 a25 k27 p28 h0 n0 _ T30.heap _
  rw [e30]
  exact ⟨rfl, N30, rfl⟩
theorem ef9_28 (m : MethodId) (a1 : Addr) : entryFrame m #[(.ref a1)] 1 = mkF m 0 #[SR a1] [] := by first | (simp [entryFrame, mkF, argsToLocals, Value.category]; done) | rfl
def Q9_28 (Z : State) (a1 : Addr) (a2 : Addr) (p6 : Int32) (a11 : Addr) (k13 : ClassId) (p14 : Int32) (p15 : Int32) (p16 : Int32) (a20 : Addr) (a25 : Addr) (k27 : ClassId) (p28 : Int32) (p29 : Int32) (h0 : Heap) (n0 : Nat) (v : Option Value) (h : Heap) (L : List Loc) : Prop := v = some (.int (0 : Int32)) ∧ Fr n0 L ∧ h = h0
set_option maxRecDepth 65536 in
set_option maxHeartbeats 40000000 in
theorem rm9_28 (l : Launch) (Z : State) (a0 : Array Value) (hw : HW a0 Z) (ws : List Jvm.Cond) (a1 : Addr) (a2 : Addr) (p6 : Int32) (a11 : Addr) (k13 : ClassId) (p14 : Int32) (p15 : Int32) (p16 : Int32) (a20 : Addr) (a25 : Addr) (k27 : ClassId) (p28 : Int32) (p29 : Int32) (h0 : Heap) (n0 : Nat) (Z0 : n0 ≤ h0.size) (f3 : Fld Z h0 a1 cC0 "article" cC1 (VR a2)) (f5 : Exa Z h0 a2 cC3) (f7 : Sta Z Z.heap "java/lang/String" "COMPACT_STRINGS" "Z" (.int p6)) (f8 : Old Z n0 h0) (f9 : ¬ (p6 = (0 : Int32))) (f10 : Fld Z h0 a2 cC3 "coder" "B" (VI 0)) (f12 : Fld Z h0 a2 cC3 "value" "[B" (VR a11)) (f17 : Arv Z h0 a11 k13 .byte 3 [VI p14, VI p15, VI p16] (VI 0)) (f19 : (own_f23_m22 (63 : Int32) p14 p15 p16) < (0 : Int32)) (f21 : Fld Z h0 a1 cC0 "clause" cC1 (VR a20)) (f23 : Exa Z h0 a20 cC3) (f24 : Fld Z h0 a20 cC3 "coder" "B" (VI 0)) (f26 : Fld Z h0 a20 cC3 "value" "[B" (VR a25)) (f30 : Arv Z h0 a25 k27 .byte 2 [VI p28, VI p29] (VI 0)) (f32 : ¬ ((own_f23_m17 (63 : Int32) p28 p29) < (0 : Int32))) :
    MetFree l yM17 (head1 (Jvm.Cond.code yM17 prog_105_method_2_code 1 (some .boolean) :: ws) ({ frames := 4, cells := 0, slots := 0, locals := 59 } : Room)) (fun a U => a = #[(.ref a1)] ∧ Z.Warmed39 U.vm ∧ U.heap = h0) (fun _ _ _ _ _ => True) (fun _ U o U' => ∃ v L, o = .returned v ∧ Q9_28 Z a1 a2 p6 a11 k13 p14 p15 p16 a20 a25 k27 p28 p29 h0 n0 v U'.heap L ∧ FrameEnd U o U' L ({ frames := 4, cells := 0, slots := 0, locals := 59 } : Room).cells ({ frames := 4, cells := 0, slots := 0, locals := 59 } : Room).slots) := by
  refine own_enter (n0 := n0) (plainFor_of_name pn6) (fun m => ef9_28 m a1) ?_
  intro p e s m below meth c s₁ hx hby hml hown hnm hret hlk X0 e0 hZ hh N0
  show own_Fin p e below _ s₁ (mkF m 0 #[SR a1] [])
  refine own_go (fun _ k => XS.aloadN X0.here hx rfl (hb hby d9_0) rfl rfl k) ?_
  show own_Fin p e below _ s₁ (mkF m 1 #[SR a1] [VR a1])
  obtain ⟨T4, X4, e4, st4⟩ := getF X0 hx hZ hown (host := "") (Or.inl (WW hw 43)) Via.refl e0 f3 (g := (mkF m 1 #[SR a1] [VR a1])) rfl rfl (hb hby d9_1)
  refine own_go st4 ?_
  show own_Fin p e below _ T4 (mkF m 4 #[SR a1] [VR a2])
  refine own_go (fun _ k => XS.bipush X4.here hx rfl (hb hby d9_4) k) ?_
  show own_Fin p e below _ T4 (mkF m 6 #[SR a1] [VI 63, VR a2])
  obtain ⟨_, T18, L18, X18, hQ18, st18⟩ := own_cV X4 hx hZ hown (WW hw 57) (WW hw 58) (notFace_of_selects (args := #[]) (mvT hZ (WW hw 60))) (WW hw 60) (WW hw 59) (WW hw 12) (WW hw 61) (rm10_4 l Z a0 hw [] a2 (63 : Int32) p6 a11 k13 p14 p15 p16 h0 n0 Z0 f5 f7 f8 f9 f10 f12 f17 (by decide : ¬ ((63 : Int32) < (0 : Int32))) (by decide : ¬ ((255 : Int32) < (63 : Int32)))) e4 f5 hml (g := (mkF m 6 #[SR a1] [VI 63, VR a2])) pd0 (hb hby d9_6) [VI 63] [] (W := 0)
  obtain ⟨rfl, N18q, e18⟩ := hQ18
  have N18 := Fr.app N0 N18q
  refine own_go st18 ?_
  show own_Fin p e below _ T18 (mkF m 9 #[SR a1] [VI (own_f23_m22 (63 : Int32) p14 p15 p16)])
  refine own_go (fun _ k => XS.ifNo X18.here hx rfl (hb hby d9_9) rfl ((if0 _ _).trans (tlt f19).2.1) (XS.aloadN X18.here hx rfl (hb hby d9_12) rfl rfl k)) ?_
  show own_Fin p e below _ T18 (mkF m 13 #[SR a1] [VR a1])
  obtain ⟨T22, X22, e22, st22⟩ := getF X18 hx hZ hown (host := "") (Or.inl (WW hw 45)) Via.refl e18 f21 (g := (mkF m 13 #[SR a1] [VR a1])) rfl rfl (hb hby d9_13)
  refine own_go st22 ?_
  show own_Fin p e below _ T22 (mkF m 16 #[SR a1] [VR a20])
  refine own_go (fun _ k => XS.bipush X22.here hx rfl (hb hby d9_16) k) ?_
  show own_Fin p e below _ T22 (mkF m 18 #[SR a1] [VI 63, VR a20])
  obtain ⟨_, T31, L31, X31, hQ31, st31⟩ := own_cV X22 hx hZ hown (WW hw 57) (WW hw 58) (notFace_of_selects (args := #[]) (mvT hZ (WW hw 60))) (WW hw 60) (WW hw 59) (WW hw 12) (WW hw 61) (rm10_3 l Z a0 hw [] a20 (63 : Int32) p6 a25 k27 p28 p29 h0 n0 Z0 f23 f7 f8 f9 f24 f26 f30 (by decide : ¬ ((63 : Int32) < (0 : Int32))) (by decide : ¬ ((255 : Int32) < (63 : Int32)))) e22 f23 hml (g := (mkF m 18 #[SR a1] [VI 63, VR a20])) pd0 (hb hby d9_18) [VI 63] [] (W := 0)
  obtain ⟨rfl, N31q, e31⟩ := hQ31
  have N31 := Fr.app N18 N31q
  refine own_go st31 ?_
  show own_Fin p e below _ T31 (mkF m 21 #[SR a1] [VI (own_f23_m17 (63 : Int32) p28 p29)])
  refine own_go (fun _ k => XS.ifYes X31.here hx rfl (pc0 := 21) (pc' := 28) rfl (hb hby d9_21) rfl ((if0 _ _).trans (flt f32).2.1) (by decide) (by decide) (XS.iconst X31.here hx rfl (hb hby d9_28) k)) ?_
  show own_Fin p e below _ T31 (mkF m 29 #[SR a1] [VI 0])
  obtain ⟨fs, hr, hrun, hended, hW, hsame⟩ := X31.leave (v := some (.int (0 : Int32))) (fun h => by rw [hret] at h; cases h)
  refine own_end (retN X31 hx (t := .boolean) hret (by simp) (hb hby d9_29) hr) hrun hended ⟨_, _, rfl, ?_, ⟨_, rfl⟩, hW, hsame.mono (by decide) (by decide)⟩
  show Q9_28 Z a1 a2 p6 a11 k13 p14 p15 p16 a20 a25 k27 p28 p29 h0 n0 _ T31.heap _
  rw [e31]
  exact ⟨rfl, N31, rfl⟩
theorem ef9_29 (m : MethodId) (a1 : Addr) : entryFrame m #[(.ref a1)] 1 = mkF m 0 #[SR a1] [] := by first | (simp [entryFrame, mkF, argsToLocals, Value.category]; done) | rfl
def Q9_29 (Z : State) (a1 : Addr) (a2 : Addr) (p6 : Int32) (a11 : Addr) (k13 : ClassId) (p14 : Int32) (p15 : Int32) (p16 : Int32) (a20 : Addr) (a25 : Addr) (k27 : ClassId) (p28 : Int32) (p29 : Int32) (h0 : Heap) (n0 : Nat) (v : Option Value) (h : Heap) (L : List Loc) : Prop := v = some (.int (1 : Int32)) ∧ Fr n0 L ∧ h = h0
set_option maxRecDepth 65536 in
set_option maxHeartbeats 40000000 in
theorem rm9_29 (l : Launch) (Z : State) (a0 : Array Value) (hw : HW a0 Z) (ws : List Jvm.Cond) (a1 : Addr) (a2 : Addr) (p6 : Int32) (a11 : Addr) (k13 : ClassId) (p14 : Int32) (p15 : Int32) (p16 : Int32) (a20 : Addr) (a25 : Addr) (k27 : ClassId) (p28 : Int32) (p29 : Int32) (h0 : Heap) (n0 : Nat) (Z0 : n0 ≤ h0.size) (f3 : Fld Z h0 a1 cC0 "article" cC1 (VR a2)) (f5 : Exa Z h0 a2 cC3) (f7 : Sta Z Z.heap "java/lang/String" "COMPACT_STRINGS" "Z" (.int p6)) (f8 : Old Z n0 h0) (f9 : ¬ (p6 = (0 : Int32))) (f10 : Fld Z h0 a2 cC3 "coder" "B" (VI 0)) (f12 : Fld Z h0 a2 cC3 "value" "[B" (VR a11)) (f17 : Arv Z h0 a11 k13 .byte 3 [VI p14, VI p15, VI p16] (VI 0)) (f19 : (own_f23_m22 (63 : Int32) p14 p15 p16) < (0 : Int32)) (f21 : Fld Z h0 a1 cC0 "clause" cC1 (VR a20)) (f23 : Exa Z h0 a20 cC3) (f24 : Fld Z h0 a20 cC3 "coder" "B" (VI 0)) (f26 : Fld Z h0 a20 cC3 "value" "[B" (VR a25)) (f30 : Arv Z h0 a25 k27 .byte 2 [VI p28, VI p29] (VI 0)) (f32 : (own_f23_m17 (63 : Int32) p28 p29) < (0 : Int32)) :
    MetFree l yM17 (head1 (Jvm.Cond.code yM17 prog_105_method_2_code 1 (some .boolean) :: ws) ({ frames := 4, cells := 0, slots := 0, locals := 59 } : Room)) (fun a U => a = #[(.ref a1)] ∧ Z.Warmed39 U.vm ∧ U.heap = h0) (fun _ _ _ _ _ => True) (fun _ U o U' => ∃ v L, o = .returned v ∧ Q9_29 Z a1 a2 p6 a11 k13 p14 p15 p16 a20 a25 k27 p28 p29 h0 n0 v U'.heap L ∧ FrameEnd U o U' L ({ frames := 4, cells := 0, slots := 0, locals := 59 } : Room).cells ({ frames := 4, cells := 0, slots := 0, locals := 59 } : Room).slots) := by
  refine own_enter (n0 := n0) (plainFor_of_name pn6) (fun m => ef9_29 m a1) ?_
  intro p e s m below meth c s₁ hx hby hml hown hnm hret hlk X0 e0 hZ hh N0
  show own_Fin p e below _ s₁ (mkF m 0 #[SR a1] [])
  refine own_go (fun _ k => XS.aloadN X0.here hx rfl (hb hby d9_0) rfl rfl k) ?_
  show own_Fin p e below _ s₁ (mkF m 1 #[SR a1] [VR a1])
  obtain ⟨T4, X4, e4, st4⟩ := getF X0 hx hZ hown (host := "") (Or.inl (WW hw 43)) Via.refl e0 f3 (g := (mkF m 1 #[SR a1] [VR a1])) rfl rfl (hb hby d9_1)
  refine own_go st4 ?_
  show own_Fin p e below _ T4 (mkF m 4 #[SR a1] [VR a2])
  refine own_go (fun _ k => XS.bipush X4.here hx rfl (hb hby d9_4) k) ?_
  show own_Fin p e below _ T4 (mkF m 6 #[SR a1] [VI 63, VR a2])
  obtain ⟨_, T18, L18, X18, hQ18, st18⟩ := own_cV X4 hx hZ hown (WW hw 57) (WW hw 58) (notFace_of_selects (args := #[]) (mvT hZ (WW hw 60))) (WW hw 60) (WW hw 59) (WW hw 12) (WW hw 61) (rm10_4 l Z a0 hw [] a2 (63 : Int32) p6 a11 k13 p14 p15 p16 h0 n0 Z0 f5 f7 f8 f9 f10 f12 f17 (by decide : ¬ ((63 : Int32) < (0 : Int32))) (by decide : ¬ ((255 : Int32) < (63 : Int32)))) e4 f5 hml (g := (mkF m 6 #[SR a1] [VI 63, VR a2])) pd0 (hb hby d9_6) [VI 63] [] (W := 0)
  obtain ⟨rfl, N18q, e18⟩ := hQ18
  have N18 := Fr.app N0 N18q
  refine own_go st18 ?_
  show own_Fin p e below _ T18 (mkF m 9 #[SR a1] [VI (own_f23_m22 (63 : Int32) p14 p15 p16)])
  refine own_go (fun _ k => XS.ifNo X18.here hx rfl (hb hby d9_9) rfl ((if0 _ _).trans (tlt f19).2.1) (XS.aloadN X18.here hx rfl (hb hby d9_12) rfl rfl k)) ?_
  show own_Fin p e below _ T18 (mkF m 13 #[SR a1] [VR a1])
  obtain ⟨T22, X22, e22, st22⟩ := getF X18 hx hZ hown (host := "") (Or.inl (WW hw 45)) Via.refl e18 f21 (g := (mkF m 13 #[SR a1] [VR a1])) rfl rfl (hb hby d9_13)
  refine own_go st22 ?_
  show own_Fin p e below _ T22 (mkF m 16 #[SR a1] [VR a20])
  refine own_go (fun _ k => XS.bipush X22.here hx rfl (hb hby d9_16) k) ?_
  show own_Fin p e below _ T22 (mkF m 18 #[SR a1] [VI 63, VR a20])
  obtain ⟨_, T31, L31, X31, hQ31, st31⟩ := own_cV X22 hx hZ hown (WW hw 57) (WW hw 58) (notFace_of_selects (args := #[]) (mvT hZ (WW hw 60))) (WW hw 60) (WW hw 59) (WW hw 12) (WW hw 61) (rm10_3 l Z a0 hw [] a20 (63 : Int32) p6 a25 k27 p28 p29 h0 n0 Z0 f23 f7 f8 f9 f24 f26 f30 (by decide : ¬ ((63 : Int32) < (0 : Int32))) (by decide : ¬ ((255 : Int32) < (63 : Int32)))) e22 f23 hml (g := (mkF m 18 #[SR a1] [VI 63, VR a20])) pd0 (hb hby d9_18) [VI 63] [] (W := 0)
  obtain ⟨rfl, N31q, e31⟩ := hQ31
  have N31 := Fr.app N18 N31q
  refine own_go st31 ?_
  show own_Fin p e below _ T31 (mkF m 21 #[SR a1] [VI (own_f23_m17 (63 : Int32) p28 p29)])
  refine own_go (fun _ k => XS.ifNo X31.here hx rfl (hb hby d9_21) rfl ((if0 _ _).trans (tlt f32).2.1) (XS.iconst X31.here hx rfl (hb hby d9_24) (XS.goto X31.here hx rfl (pc0 := 25) (pc' := 29) rfl (hb hby d9_25) (by decide) (by decide) k))) ?_
  show own_Fin p e below _ T31 (mkF m 29 #[SR a1] [VI 1])
  obtain ⟨fs, hr, hrun, hended, hW, hsame⟩ := X31.leave (v := some (.int (1 : Int32))) (fun h => by rw [hret] at h; cases h)
  refine own_end (retN X31 hx (t := .boolean) hret (by simp) (hb hby d9_29) hr) hrun hended ⟨_, _, rfl, ?_, ⟨_, rfl⟩, hW, hsame.mono (by decide) (by decide)⟩
  show Q9_29 Z a1 a2 p6 a11 k13 p14 p15 p16 a20 a25 k27 p28 p29 h0 n0 _ T31.heap _
  rw [e31]
  exact ⟨rfl, N31, rfl⟩
theorem ef9_30 (m : MethodId) (a1 : Addr) : entryFrame m #[(.ref a1)] 1 = mkF m 0 #[SR a1] [] := by first | (simp [entryFrame, mkF, argsToLocals, Value.category]; done) | rfl
def Q9_30 (Z : State) (a1 : Addr) (a2 : Addr) (p6 : Int32) (a11 : Addr) (k13 : ClassId) (p14 : Int32) (p15 : Int32) (p16 : Int32) (a20 : Addr) (a25 : Addr) (k27 : ClassId) (p28 : Int32) (p29 : Int32) (p30 : Int32) (h0 : Heap) (n0 : Nat) (v : Option Value) (h : Heap) (L : List Loc) : Prop := v = some (.int (0 : Int32)) ∧ Fr n0 L ∧ h = h0
set_option maxRecDepth 65536 in
set_option maxHeartbeats 40000000 in
theorem rm9_30 (l : Launch) (Z : State) (a0 : Array Value) (hw : HW a0 Z) (ws : List Jvm.Cond) (a1 : Addr) (a2 : Addr) (p6 : Int32) (a11 : Addr) (k13 : ClassId) (p14 : Int32) (p15 : Int32) (p16 : Int32) (a20 : Addr) (a25 : Addr) (k27 : ClassId) (p28 : Int32) (p29 : Int32) (p30 : Int32) (h0 : Heap) (n0 : Nat) (Z0 : n0 ≤ h0.size) (f3 : Fld Z h0 a1 cC0 "article" cC1 (VR a2)) (f5 : Exa Z h0 a2 cC3) (f7 : Sta Z Z.heap "java/lang/String" "COMPACT_STRINGS" "Z" (.int p6)) (f8 : Old Z n0 h0) (f9 : ¬ (p6 = (0 : Int32))) (f10 : Fld Z h0 a2 cC3 "coder" "B" (VI 0)) (f12 : Fld Z h0 a2 cC3 "value" "[B" (VR a11)) (f17 : Arv Z h0 a11 k13 .byte 3 [VI p14, VI p15, VI p16] (VI 0)) (f19 : (own_f23_m22 (63 : Int32) p14 p15 p16) < (0 : Int32)) (f21 : Fld Z h0 a1 cC0 "clause" cC1 (VR a20)) (f23 : Exa Z h0 a20 cC3) (f24 : Fld Z h0 a20 cC3 "coder" "B" (VI 0)) (f26 : Fld Z h0 a20 cC3 "value" "[B" (VR a25)) (f31 : Arv Z h0 a25 k27 .byte 3 [VI p28, VI p29, VI p30] (VI 0)) (f33 : ¬ ((own_f23_m22 (63 : Int32) p28 p29 p30) < (0 : Int32))) :
    MetFree l yM17 (head1 (Jvm.Cond.code yM17 prog_105_method_2_code 1 (some .boolean) :: ws) ({ frames := 4, cells := 0, slots := 0, locals := 59 } : Room)) (fun a U => a = #[(.ref a1)] ∧ Z.Warmed39 U.vm ∧ U.heap = h0) (fun _ _ _ _ _ => True) (fun _ U o U' => ∃ v L, o = .returned v ∧ Q9_30 Z a1 a2 p6 a11 k13 p14 p15 p16 a20 a25 k27 p28 p29 p30 h0 n0 v U'.heap L ∧ FrameEnd U o U' L ({ frames := 4, cells := 0, slots := 0, locals := 59 } : Room).cells ({ frames := 4, cells := 0, slots := 0, locals := 59 } : Room).slots) := by
  refine own_enter (n0 := n0) (plainFor_of_name pn6) (fun m => ef9_30 m a1) ?_
  intro p e s m below meth c s₁ hx hby hml hown hnm hret hlk X0 e0 hZ hh N0
  show own_Fin p e below _ s₁ (mkF m 0 #[SR a1] [])
  refine own_go (fun _ k => XS.aloadN X0.here hx rfl (hb hby d9_0) rfl rfl k) ?_
  show own_Fin p e below _ s₁ (mkF m 1 #[SR a1] [VR a1])
  obtain ⟨T4, X4, e4, st4⟩ := getF X0 hx hZ hown (host := "") (Or.inl (WW hw 43)) Via.refl e0 f3 (g := (mkF m 1 #[SR a1] [VR a1])) rfl rfl (hb hby d9_1)
  refine own_go st4 ?_
  show own_Fin p e below _ T4 (mkF m 4 #[SR a1] [VR a2])
  refine own_go (fun _ k => XS.bipush X4.here hx rfl (hb hby d9_4) k) ?_
  show own_Fin p e below _ T4 (mkF m 6 #[SR a1] [VI 63, VR a2])
  obtain ⟨_, T18, L18, X18, hQ18, st18⟩ := own_cV X4 hx hZ hown (WW hw 57) (WW hw 58) (notFace_of_selects (args := #[]) (mvT hZ (WW hw 60))) (WW hw 60) (WW hw 59) (WW hw 12) (WW hw 61) (rm10_4 l Z a0 hw [] a2 (63 : Int32) p6 a11 k13 p14 p15 p16 h0 n0 Z0 f5 f7 f8 f9 f10 f12 f17 (by decide : ¬ ((63 : Int32) < (0 : Int32))) (by decide : ¬ ((255 : Int32) < (63 : Int32)))) e4 f5 hml (g := (mkF m 6 #[SR a1] [VI 63, VR a2])) pd0 (hb hby d9_6) [VI 63] [] (W := 0)
  obtain ⟨rfl, N18q, e18⟩ := hQ18
  have N18 := Fr.app N0 N18q
  refine own_go st18 ?_
  show own_Fin p e below _ T18 (mkF m 9 #[SR a1] [VI (own_f23_m22 (63 : Int32) p14 p15 p16)])
  refine own_go (fun _ k => XS.ifNo X18.here hx rfl (hb hby d9_9) rfl ((if0 _ _).trans (tlt f19).2.1) (XS.aloadN X18.here hx rfl (hb hby d9_12) rfl rfl k)) ?_
  show own_Fin p e below _ T18 (mkF m 13 #[SR a1] [VR a1])
  obtain ⟨T22, X22, e22, st22⟩ := getF X18 hx hZ hown (host := "") (Or.inl (WW hw 45)) Via.refl e18 f21 (g := (mkF m 13 #[SR a1] [VR a1])) rfl rfl (hb hby d9_13)
  refine own_go st22 ?_
  show own_Fin p e below _ T22 (mkF m 16 #[SR a1] [VR a20])
  refine own_go (fun _ k => XS.bipush X22.here hx rfl (hb hby d9_16) k) ?_
  show own_Fin p e below _ T22 (mkF m 18 #[SR a1] [VI 63, VR a20])
  obtain ⟨_, T32, L32, X32, hQ32, st32⟩ := own_cV X22 hx hZ hown (WW hw 57) (WW hw 58) (notFace_of_selects (args := #[]) (mvT hZ (WW hw 60))) (WW hw 60) (WW hw 59) (WW hw 12) (WW hw 61) (rm10_4 l Z a0 hw [] a20 (63 : Int32) p6 a25 k27 p28 p29 p30 h0 n0 Z0 f23 f7 f8 f9 f24 f26 f31 (by decide : ¬ ((63 : Int32) < (0 : Int32))) (by decide : ¬ ((255 : Int32) < (63 : Int32)))) e22 f23 hml (g := (mkF m 18 #[SR a1] [VI 63, VR a20])) pd0 (hb hby d9_18) [VI 63] [] (W := 0)
  obtain ⟨rfl, N32q, e32⟩ := hQ32
  have N32 := Fr.app N18 N32q
  refine own_go st32 ?_
  show own_Fin p e below _ T32 (mkF m 21 #[SR a1] [VI (own_f23_m22 (63 : Int32) p28 p29 p30)])
  refine own_go (fun _ k => XS.ifYes X32.here hx rfl (pc0 := 21) (pc' := 28) rfl (hb hby d9_21) rfl ((if0 _ _).trans (flt f33).2.1) (by decide) (by decide) (XS.iconst X32.here hx rfl (hb hby d9_28) k)) ?_
  show own_Fin p e below _ T32 (mkF m 29 #[SR a1] [VI 0])
  obtain ⟨fs, hr, hrun, hended, hW, hsame⟩ := X32.leave (v := some (.int (0 : Int32))) (fun h => by rw [hret] at h; cases h)
  refine own_end (retN X32 hx (t := .boolean) hret (by simp) (hb hby d9_29) hr) hrun hended ⟨_, _, rfl, ?_, ⟨_, rfl⟩, hW, hsame.mono (by decide) (by decide)⟩
  show Q9_30 Z a1 a2 p6 a11 k13 p14 p15 p16 a20 a25 k27 p28 p29 p30 h0 n0 _ T32.heap _
  rw [e32]
  exact ⟨rfl, N32, rfl⟩
theorem ef9_31 (m : MethodId) (a1 : Addr) : entryFrame m #[(.ref a1)] 1 = mkF m 0 #[SR a1] [] := by first | (simp [entryFrame, mkF, argsToLocals, Value.category]; done) | rfl
def Q9_31 (Z : State) (a1 : Addr) (a2 : Addr) (p6 : Int32) (a11 : Addr) (k13 : ClassId) (p14 : Int32) (p15 : Int32) (p16 : Int32) (a20 : Addr) (a25 : Addr) (k27 : ClassId) (p28 : Int32) (p29 : Int32) (p30 : Int32) (h0 : Heap) (n0 : Nat) (v : Option Value) (h : Heap) (L : List Loc) : Prop := v = some (.int (1 : Int32)) ∧ Fr n0 L ∧ h = h0
set_option maxRecDepth 65536 in
set_option maxHeartbeats 40000000 in
theorem rm9_31 (l : Launch) (Z : State) (a0 : Array Value) (hw : HW a0 Z) (ws : List Jvm.Cond) (a1 : Addr) (a2 : Addr) (p6 : Int32) (a11 : Addr) (k13 : ClassId) (p14 : Int32) (p15 : Int32) (p16 : Int32) (a20 : Addr) (a25 : Addr) (k27 : ClassId) (p28 : Int32) (p29 : Int32) (p30 : Int32) (h0 : Heap) (n0 : Nat) (Z0 : n0 ≤ h0.size) (f3 : Fld Z h0 a1 cC0 "article" cC1 (VR a2)) (f5 : Exa Z h0 a2 cC3) (f7 : Sta Z Z.heap "java/lang/String" "COMPACT_STRINGS" "Z" (.int p6)) (f8 : Old Z n0 h0) (f9 : ¬ (p6 = (0 : Int32))) (f10 : Fld Z h0 a2 cC3 "coder" "B" (VI 0)) (f12 : Fld Z h0 a2 cC3 "value" "[B" (VR a11)) (f17 : Arv Z h0 a11 k13 .byte 3 [VI p14, VI p15, VI p16] (VI 0)) (f19 : (own_f23_m22 (63 : Int32) p14 p15 p16) < (0 : Int32)) (f21 : Fld Z h0 a1 cC0 "clause" cC1 (VR a20)) (f23 : Exa Z h0 a20 cC3) (f24 : Fld Z h0 a20 cC3 "coder" "B" (VI 0)) (f26 : Fld Z h0 a20 cC3 "value" "[B" (VR a25)) (f31 : Arv Z h0 a25 k27 .byte 3 [VI p28, VI p29, VI p30] (VI 0)) (f33 : (own_f23_m22 (63 : Int32) p28 p29 p30) < (0 : Int32)) :
    MetFree l yM17 (head1 (Jvm.Cond.code yM17 prog_105_method_2_code 1 (some .boolean) :: ws) ({ frames := 4, cells := 0, slots := 0, locals := 59 } : Room)) (fun a U => a = #[(.ref a1)] ∧ Z.Warmed39 U.vm ∧ U.heap = h0) (fun _ _ _ _ _ => True) (fun _ U o U' => ∃ v L, o = .returned v ∧ Q9_31 Z a1 a2 p6 a11 k13 p14 p15 p16 a20 a25 k27 p28 p29 p30 h0 n0 v U'.heap L ∧ FrameEnd U o U' L ({ frames := 4, cells := 0, slots := 0, locals := 59 } : Room).cells ({ frames := 4, cells := 0, slots := 0, locals := 59 } : Room).slots) := by
  refine own_enter (n0 := n0) (plainFor_of_name pn6) (fun m => ef9_31 m a1) ?_
  intro p e s m below meth c s₁ hx hby hml hown hnm hret hlk X0 e0 hZ hh N0
  show own_Fin p e below _ s₁ (mkF m 0 #[SR a1] [])
  refine own_go (fun _ k => XS.aloadN X0.here hx rfl (hb hby d9_0) rfl rfl k) ?_
  show own_Fin p e below _ s₁ (mkF m 1 #[SR a1] [VR a1])
  obtain ⟨T4, X4, e4, st4⟩ := getF X0 hx hZ hown (host := "") (Or.inl (WW hw 43)) Via.refl e0 f3 (g := (mkF m 1 #[SR a1] [VR a1])) rfl rfl (hb hby d9_1)
  refine own_go st4 ?_
  show own_Fin p e below _ T4 (mkF m 4 #[SR a1] [VR a2])
  refine own_go (fun _ k => XS.bipush X4.here hx rfl (hb hby d9_4) k) ?_
  show own_Fin p e below _ T4 (mkF m 6 #[SR a1] [VI 63, VR a2])
  obtain ⟨_, T18, L18, X18, hQ18, st18⟩ := own_cV X4 hx hZ hown (WW hw 57) (WW hw 58) (notFace_of_selects (args := #[]) (mvT hZ (WW hw 60))) (WW hw 60) (WW hw 59) (WW hw 12) (WW hw 61) (rm10_4 l Z a0 hw [] a2 (63 : Int32) p6 a11 k13 p14 p15 p16 h0 n0 Z0 f5 f7 f8 f9 f10 f12 f17 (by decide : ¬ ((63 : Int32) < (0 : Int32))) (by decide : ¬ ((255 : Int32) < (63 : Int32)))) e4 f5 hml (g := (mkF m 6 #[SR a1] [VI 63, VR a2])) pd0 (hb hby d9_6) [VI 63] [] (W := 0)
  obtain ⟨rfl, N18q, e18⟩ := hQ18
  have N18 := Fr.app N0 N18q
  refine own_go st18 ?_
  show own_Fin p e below _ T18 (mkF m 9 #[SR a1] [VI (own_f23_m22 (63 : Int32) p14 p15 p16)])
  refine own_go (fun _ k => XS.ifNo X18.here hx rfl (hb hby d9_9) rfl ((if0 _ _).trans (tlt f19).2.1) (XS.aloadN X18.here hx rfl (hb hby d9_12) rfl rfl k)) ?_
  show own_Fin p e below _ T18 (mkF m 13 #[SR a1] [VR a1])
  obtain ⟨T22, X22, e22, st22⟩ := getF X18 hx hZ hown (host := "") (Or.inl (WW hw 45)) Via.refl e18 f21 (g := (mkF m 13 #[SR a1] [VR a1])) rfl rfl (hb hby d9_13)
  refine own_go st22 ?_
  show own_Fin p e below _ T22 (mkF m 16 #[SR a1] [VR a20])
  refine own_go (fun _ k => XS.bipush X22.here hx rfl (hb hby d9_16) k) ?_
  show own_Fin p e below _ T22 (mkF m 18 #[SR a1] [VI 63, VR a20])
  obtain ⟨_, T32, L32, X32, hQ32, st32⟩ := own_cV X22 hx hZ hown (WW hw 57) (WW hw 58) (notFace_of_selects (args := #[]) (mvT hZ (WW hw 60))) (WW hw 60) (WW hw 59) (WW hw 12) (WW hw 61) (rm10_4 l Z a0 hw [] a20 (63 : Int32) p6 a25 k27 p28 p29 p30 h0 n0 Z0 f23 f7 f8 f9 f24 f26 f31 (by decide : ¬ ((63 : Int32) < (0 : Int32))) (by decide : ¬ ((255 : Int32) < (63 : Int32)))) e22 f23 hml (g := (mkF m 18 #[SR a1] [VI 63, VR a20])) pd0 (hb hby d9_18) [VI 63] [] (W := 0)
  obtain ⟨rfl, N32q, e32⟩ := hQ32
  have N32 := Fr.app N18 N32q
  refine own_go st32 ?_
  show own_Fin p e below _ T32 (mkF m 21 #[SR a1] [VI (own_f23_m22 (63 : Int32) p28 p29 p30)])
  refine own_go (fun _ k => XS.ifNo X32.here hx rfl (hb hby d9_21) rfl ((if0 _ _).trans (tlt f33).2.1) (XS.iconst X32.here hx rfl (hb hby d9_24) (XS.goto X32.here hx rfl (pc0 := 25) (pc' := 29) rfl (hb hby d9_25) (by decide) (by decide) k))) ?_
  show own_Fin p e below _ T32 (mkF m 29 #[SR a1] [VI 1])
  obtain ⟨fs, hr, hrun, hended, hW, hsame⟩ := X32.leave (v := some (.int (1 : Int32))) (fun h => by rw [hret] at h; cases h)
  refine own_end (retN X32 hx (t := .boolean) hret (by simp) (hb hby d9_29) hr) hrun hended ⟨_, _, rfl, ?_, ⟨_, rfl⟩, hW, hsame.mono (by decide) (by decide)⟩
  show Q9_31 Z a1 a2 p6 a11 k13 p14 p15 p16 a20 a25 k27 p28 p29 p30 h0 n0 _ T32.heap _
  rw [e32]
  exact ⟨rfl, N32, rfl⟩
theorem ef0 (m : MethodId) (p1 : Int32) (p2 : Int32) (p3 : Int32) (p4 : Int32) : entryFrame m #[(.int p1), (.int p2), (.int p3), (.int p4)] maxLocals = mkF m 0 #[SI p1, SI p2, SI p3, SI p4, SU, SU] [] := by first | (simp [entryFrame, mkF, argsToLocals, Value.category, maxLocals]; done) | rfl
set_option maxRecDepth 65536 in
set_option maxHeartbeats 40000000 in
theorem rm0 (l : Launch) (Z : State) (a0 : Array Value) (hw : HW a0 Z) (ws : List Jvm.Cond) (p1 : Int32) (p2 : Int32) (p3 : Int32) (p4 : Int32) (G1 : Int32) (h0 : Heap) (n0 : Nat) (Z0 : n0 ≤ h0.size) (X00 : Old Z n0 h0) (O_G1 : Sta Z Z.heap "java/lang/String" "COMPACT_STRINGS" "Z" (.int G1)) (P_G1 : ¬ (G1 = (0 : Int32))) :
    MetFree l x (head1 (Jvm.Cond.code x code maxLocals ret :: ws) room_1) (fun a U => a = #[(.int p1), (.int p2), (.int p3), (.int p4)] ∧ Z.Warmed39 U.vm ∧ U.heap = h0 ∧ CHv Z own_EL U.vm h0) (fun _ _ _ _ _ => True) (fun _ U o U' => ∃ v L, o = .returned v ∧ Q0 n0 v U'.heap L ∧ ReturnedEndW U o U' L 40 1216) := by
  refine own_enterH (n0 := n0) (plainFor_of_name pn0) (fun m => ef0 m p1 p2 p3 p4) ?_
  intro p e s m below meth c s₁ hx hby hml hown hnm hret hlk XY0 e0 hZ hh N0 hC0
  replace hml : c.maxLocals = 6 := hml
  have X0 : Stand p l e room_1 (s.setVm s.vm) m _ below meth c s₁ [] 0 0 := XY0
  have hS0 : s.Since s.vm h0.size := (State.WarmedH.refl s).since _
  have hk0 : h0.size ≤ h0.size := Nat.le_refl _
  have hEL : EW Z a0 own_EL := (EW.cons (WW hw 24) (by decide) EW.nil)
  have hR0 : CHr Z own_EL s.vm h0 s.vm h0 := CHr.refl hC0
  show own_Fin p e below _ s₁ (mkF m 0 #[SI p1, SI p2, SI p3, SI p4, SU, SU] [])
  obtain ⟨T101, h101, X101, e101, E101, A101, D101, -, st101⟩ := newO X0 hx hZ hown (WW hw 0) (WW hw 1) (WW hw 2) e0 (g := (mkF m 0 #[SI p1, SI p2, SI p3, SI p4, SU, SU] [])) rfl (hb hby at_0) (by decide) (by decide)
  obtain ⟨b101, g101⟩ : ∃ z, z = h0.size := ⟨_, rfl⟩
  rw [← g101] at A101 D101 st101
  have hR102 := hR0.trans (CHr.ext E101 hR0.1)
  have F103 : Fld Z h101 b101 cC0 "printed" cC1 (.null) := D101 (Or.inr (WW hw 42)) (ty := (.object "java/lang/String")) (by decide)
  have F104 : Fld Z h101 b101 cC0 "article" cC1 (.null) := D101 (Or.inr (WW hw 44)) (ty := (.object "java/lang/String")) (by decide)
  have F105 : Fld Z h101 b101 cC0 "clause" cC1 (.null) := D101 (Or.inr (WW hw 46)) (ty := (.object "java/lang/String")) (by decide)
  have F106 : Fld Z h101 b101 cC0 "rest" cC1 (.null) := D101 (Or.inr (WW hw 48)) (ty := (.object "java/lang/String")) (by decide)
  refine own_go st101 ?_
  show own_Fin p e below _ T101 (mkF m 3 #[SI p1, SI p2, SI p3, SI p4, SU, SU] [VR b101])
  refine own_go (fun _ k => XS.dup X101.here hx rfl (hb hby at_3) rfl rfl (XS.iloadN X101.here hx rfl (hb hby at_4) rfl k)) ?_
  show own_Fin p e below _ T101 (mkF m 5 #[SI p1, SI p2, SI p3, SI p4, SU, SU] [VI p3, VR b101, VR b101])
  have O107 : Old Z n0 h101 := (X00.ext E101)
  have z109 : h0.size ≤ h101.size := E101.1
  obtain ⟨_, T108, L108, X108, hQ108, hS108, hZ108, ho108, hC108, st108⟩ := own_cSH (vm0 := (s.setVm s.vm).vm) X101 hx hZ hown hS0 (Nat.le_trans hk0 z109) hEL hR102.1 (WW hw 3) (WW hw 4) (WW hw 5) (WW hw 6) (rm1_m3 l Z a0 hw [] p3 G1 h101 n0 (Nat.le_trans Z0 z109) O_G1 O107 P_G1) e101 hml (g := (mkF m 5 #[SI p1, SI p2, SI p3, SI p4, SU, SU] [VI p3, VR b101, VR b101])) pd4 (hb hby at_5) [VI p3] [VR b101, VR b101] (W := 2)
  have hR108 := hR102.trans hC108
  obtain ⟨r0_108, rfl, N108q, K108, o0_108⟩ := hQ108
  have N108 := Fr.app N0 N108q
  refine own_go st108 ?_
  show own_Fin p e below _ T108 (mkF m 8 #[SI p1, SI p2, SI p3, SI p4, SU, SU] [VR r0_108, VR b101, VR b101])
  refine own_go (fun _ k => XS.iloadN X108.here hx rfl (hb hby at_8) rfl k) ?_
  show own_Fin p e below _ T108 (mkF m 9 #[SI p1, SI p2, SI p3, SI p4, SU, SU] [VI p1, VR r0_108, VR b101, VR b101])
  by_cases hc0 : (((p1.toUInt32 >>> ((24 : Int32) &&& 31).toUInt32).toInt32) &&& (3 : Int32)) = (0 : Int32)
  ·
    have z111 : h0.size ≤ T108.heap.size := Nat.le_trans z109 K108.1
    obtain ⟨_, T110, L110, X110, hQ110, hS110, hZ110, ho110, hC110, st110⟩ := own_cSH (vm0 := (s.setVm T108.vm).vm) X108 hx hZ108 ho108 hS108 (Nat.le_refl _) hEL hR108.1 (WW hw 3) (WW hw 4) (WW hw 5) (WW hw 6) (rm1_2 l Z a0 hw [] p1 T108.heap n0 (Nat.le_trans Z0 z111) hc0) rfl hml (g := (mkF m 9 #[SI p1, SI p2, SI p3, SI p4, SU, SU] [VI p1, VR r0_108, VR b101, VR b101])) pd4 (hb hby at_9) [VI p1] [VR r0_108, VR b101, VR b101] (W := 3)
    have hR110 := hR108.trans hC110
    obtain ⟨b4_110, b10_9_13_110, kb10_9_13_110, rfl, N110q, K110, lob4_110, o0_110, o1_110, o2_110, o3_110⟩ := hQ110
    have N110 := Fr.app N108 N110q
    refine own_go st110 ?_
    show own_Fin p e below _ T110 (mkF m 12 #[SI p1, SI p2, SI p3, SI p4, SU, SU] [VR b4_110, VR r0_108, VR b101, VR b101])
    refine own_go (fun _ k => XS.iloadN X110.here hx rfl (hb hby at_12) rfl k) ?_
    show own_Fin p e below _ T110 (mkF m 13 #[SI p1, SI p2, SI p3, SI p4, SU, SU] [VI p2, VR b4_110, VR r0_108, VR b101, VR b101])
    by_cases hc1 : (((p2.toUInt32 >>> ((24 : Int32) &&& 31).toUInt32).toInt32) &&& (3 : Int32)) = (0 : Int32)
    ·
      have z113 : h0.size ≤ T110.heap.size := Nat.le_trans z111 K110.1
      obtain ⟨_, T112, L112, X112, hQ112, hS112, hZ112, ho112, hC112, st112⟩ := own_cSH (vm0 := (s.setVm T110.vm).vm) X110 hx hZ110 ho110 hS110 (Nat.le_refl _) hEL hR110.1 (WW hw 3) (WW hw 4) (WW hw 5) (WW hw 6) (rm1_2 l Z a0 hw [] p2 T110.heap n0 (Nat.le_trans Z0 z113) hc1) rfl hml (g := (mkF m 13 #[SI p1, SI p2, SI p3, SI p4, SU, SU] [VI p2, VR b4_110, VR r0_108, VR b101, VR b101])) pd4 (hb hby at_13) [VI p2] [VR b4_110, VR r0_108, VR b101, VR b101] (W := 4)
      have hR112 := hR110.trans hC112
      obtain ⟨b4_112, b10_9_13_112, kb10_9_13_112, rfl, N112q, K112, lob4_112, o0_112, o1_112, o2_112, o3_112⟩ := hQ112
      have N112 := Fr.app N110 N112q
      refine own_go st112 ?_
      show own_Fin p e below _ T112 (mkF m 16 #[SI p1, SI p2, SI p3, SI p4, SU, SU] [VR b4_112, VR b4_110, VR r0_108, VR b101, VR b101])
      refine own_go (fun _ k => XS.iloadN X112.here hx rfl (hb hby at_16) rfl k) ?_
      show own_Fin p e below _ T112 (mkF m 17 #[SI p1, SI p2, SI p3, SI p4, SU, SU] [VI p4, VR b4_112, VR b4_110, VR r0_108, VR b101, VR b101])
      have O114 : Old Z n0 T112.heap := (((O107.keep K108 all0).keep K110 all0).keep K112 all0)
      have z116 : h0.size ≤ T112.heap.size := Nat.le_trans z113 K112.1
      obtain ⟨_, T115, L115, X115, hQ115, hS115, hZ115, ho115, hC115, st115⟩ := own_cSH (vm0 := (s.setVm T112.vm).vm) X112 hx hZ112 ho112 hS112 (Nat.le_refl _) hEL hR112.1 (WW hw 3) (WW hw 4) (WW hw 5) (WW hw 6) (rm1_m3 l Z a0 hw [] p4 G1 T112.heap n0 (Nat.le_trans Z0 z116) O_G1 O114 P_G1) rfl hml (g := (mkF m 17 #[SI p1, SI p2, SI p3, SI p4, SU, SU] [VI p4, VR b4_112, VR b4_110, VR r0_108, VR b101, VR b101])) pd4 (hb hby at_17) [VI p4] [VR b4_112, VR b4_110, VR r0_108, VR b101, VR b101] (W := 5)
      have hR115 := hR112.trans hC115
      obtain ⟨r0_115, rfl, N115q, K115, o0_115⟩ := hQ115
      have N115 := Fr.app N112 N115q
      refine own_go st115 ?_
      show own_Fin p e below _ T115 (mkF m 20 #[SI p1, SI p2, SI p3, SI p4, SU, SU] [VR r0_115, VR b4_112, VR b4_110, VR r0_108, VR b101, VR b101])
      have F117 : Exa Z T115.heap b101 cC0 := ((((A101.keep K108).keep K110).keep K112).keep K115)
      have F118 : Fld Z T115.heap b101 cC0 "printed" cC1 (.null) := ((((F103.keep K108 nin0).keep K110 nin0).keep K112 nin0).keep K115 nin0)
      have u119 : n0 ≤ b101 := Nat.le_trans Z0 (Nat.le_of_eq g101.symm)
      have F120 : Fld Z T115.heap b101 cC0 "article" cC1 (.null) := ((((F104.keep K108 nin0).keep K110 nin0).keep K112 nin0).keep K115 nin0)
      have F121 : Fld Z T115.heap b101 cC0 "clause" cC1 (.null) := ((((F105.keep K108 nin0).keep K110 nin0).keep K112 nin0).keep K115 nin0)
      have F122 : Fld Z T115.heap b101 cC0 "rest" cC1 (.null) := ((((F106.keep K108 nin0).keep K110 nin0).keep K112 nin0).keep K115 nin0)
      have z124 : h0.size ≤ T115.heap.size := Nat.le_trans z116 K115.1
      obtain ⟨_, T123, L123, X123, hQ123, st123⟩ := own_cI X115 hx hZ115 ho115 (WW hw 32) (WW hw 33) (WW hw 2) (WW hw 34) (rm6_1 l Z a0 hw [] b101 r0_108 b4_110 b4_112 r0_115 T115.heap n0 (Nat.le_trans Z0 z124) F117 F118 u119 F120 F121 F122) rfl hml (g := (mkF m 20 #[SI p1, SI p2, SI p3, SI p4, SU, SU] [VR r0_115, VR b4_112, VR b4_110, VR r0_108, VR b101, VR b101])) pd6 (hb hby at_20) b101 [VR r0_108, VR b4_110, VR b4_112, VR r0_115] [VR b101] (W := 1)
      obtain ⟨rfl, N123q, K123, o0_123, o1_123, o2_123, o3_123, o4_123⟩ := hQ123
      have hR125 := hR115.trans (CHr.keep K123 (allS (Safe.exa (State.Warmed39.alike hZ115) F117 (by decide) (by decide)) all0) hR115.1)
      have N123 := Fr.app N115 N123q
      refine own_go st123 ?_
      show own_Fin p e below _ T123 (mkF m 23 #[SI p1, SI p2, SI p3, SI p4, SU, SU] [VR b101])
      refine own_go (fun _ k => XS.astore X123.here hx rfl (hb hby at_23) rfl rfl (l' := #[SI p1, SI p2, SI p3, SI p4, SR b101, SU]) rfl (XS.iloadN X123.here hx rfl (hb hby at_25) rfl k)) ?_
      show own_Fin p e below _ T123 (mkF m 26 #[SI p1, SI p2, SI p3, SI p4, SR b101, SU] [VI p1])
      have z127 : h0.size ≤ T123.heap.size := Nat.le_trans z124 K123.1
      obtain ⟨_, T126, L126, X126, hQ126, st126⟩ := own_cS X123 hx hZ115 ho115 (WW hw 49) (WW hw 50) (WW hw 5) (WW hw 51) (rm8_m7 l Z a0 hw [] p1 T123.heap n0 (Nat.le_trans Z0 z127) (by rw [hc0]; decide : (((p1.toUInt32 >>> ((24 : Int32) &&& 31).toUInt32).toInt32) &&& (3 : Int32)) < (1 : Int32)) (by rw [hc0]; decide : (((p1.toUInt32 >>> ((24 : Int32) &&& 31).toUInt32).toInt32) &&& (3 : Int32)) < (2 : Int32)) (by rw [hc0]; decide : (((p1.toUInt32 >>> ((24 : Int32) &&& 31).toUInt32).toInt32) &&& (3 : Int32)) < (3 : Int32))) rfl hml (g := (mkF m 26 #[SI p1, SI p2, SI p3, SI p4, SR b101, SU] [VI p1])) pd7 (hb hby at_26) [VI p1] [] (W := 0)
      obtain ⟨rfl, N126q, e126⟩ := hQ126
      have N126 := Fr.app N123 N126q
      refine own_go st126 ?_
      show own_Fin p e below _ T126 (mkF m 29 #[SI p1, SI p2, SI p3, SI p4, SR b101, SU] [VI 1])
      refine own_go (fun _ k => XS.ifNo X126.here hx rfl (hb hby at_29) rfl ((if0 _ _).trans (feq (by decide : ¬ ((1 : Int32) = (0 : Int32)))).1) (XS.iloadN X126.here hx rfl (hb hby at_32) rfl k)) ?_
      show own_Fin p e below _ T126 (mkF m 33 #[SI p1, SI p2, SI p3, SI p4, SR b101, SU] [VI p2])
      obtain ⟨_, T128, L128, X128, hQ128, st128⟩ := own_cS X126 hx hZ115 ho115 (WW hw 49) (WW hw 50) (WW hw 5) (WW hw 51) (rm8_m7 l Z a0 hw [] p2 T123.heap n0 (Nat.le_trans Z0 z127) (by rw [hc1]; decide : (((p2.toUInt32 >>> ((24 : Int32) &&& 31).toUInt32).toInt32) &&& (3 : Int32)) < (1 : Int32)) (by rw [hc1]; decide : (((p2.toUInt32 >>> ((24 : Int32) &&& 31).toUInt32).toInt32) &&& (3 : Int32)) < (2 : Int32)) (by rw [hc1]; decide : (((p2.toUInt32 >>> ((24 : Int32) &&& 31).toUInt32).toInt32) &&& (3 : Int32)) < (3 : Int32))) e126 hml (g := (mkF m 33 #[SI p1, SI p2, SI p3, SI p4, SR b101, SU] [VI p2])) pd7 (hb hby at_33) [VI p2] [] (W := 0)
      obtain ⟨rfl, N128q, e128⟩ := hQ128
      have N128 := Fr.app N126 N128q
      refine own_go st128 ?_
      show own_Fin p e below _ T128 (mkF m 36 #[SI p1, SI p2, SI p3, SI p4, SR b101, SU] [VI 1])
      refine own_go (fun _ k => XS.ifNo X128.here hx rfl (hb hby at_36) rfl ((if0 _ _).trans (feq (by decide : ¬ ((1 : Int32) = (0 : Int32)))).1) (XS.iconst X128.here hx rfl (hb hby at_39) (XS.goto X128.here hx rfl (pc0 := 40) (pc' := 44) rfl (hb hby at_40) (by decide) (by decide) (XS.istore X128.here hx rfl (hb hby at_44) rfl (l' := #[SI p1, SI p2, SI p3, SI p4, SR b101, SI 1]) rfl (XS.aload X128.here hx rfl (hb hby at_46) rfl rfl k))))) ?_
      show own_Fin p e below _ T128 (mkF m 48 #[SI p1, SI p2, SI p3, SI p4, SR b101, SI 1] [VR b101])
      have F129 : Exa Z T123.heap b4_110 cC3 := (((o0_110.keep K112).keep K115).keep K123)
      have O130 : Old Z n0 T123.heap := ((O114.keep K115 all0).keep K123 (allS u119 all0))
      have z132 : h101.size ≤ T108.heap.size := K108.1
      have v131 : b101 ≠ b4_110 := Nat.ne_of_lt (Nat.lt_of_lt_of_le A101.lt (Nat.le_trans z132 lob4_110))
      have F133 : Fld Z T123.heap b4_110 cC3 "coder" "B" (VI 0) := (((o2_110.keep K112 nin0).keep K115 nin0).keep K123 (ninS (Ne.symm v131) nin0))
      have F134 : Fld Z T123.heap b4_110 cC3 "value" "[B" (VR b10_9_13_110) := (((o1_110.keep K112 nin0).keep K115 nin0).keep K123 (ninS (Ne.symm v131) nin0))
      have v135 : b101 ≠ b10_9_13_110 := Exa.neArv ((A101.keep K108).keep K110) o3_110 (WW hw 1)
      have F136 : Arv Z T123.heap b10_9_13_110 kb10_9_13_110 .byte 0 [] (VI 0) := (((o3_110.keep K112 nin0).keep K115 nin0).keep K123 (ninS (Ne.symm v135) nin0))
      have F137 : Exa Z T123.heap b4_112 cC3 := ((o0_112.keep K115).keep K123)
      have z139 : h101.size ≤ T110.heap.size := Nat.le_trans z132 K110.1
      have v138 : b101 ≠ b4_112 := Nat.ne_of_lt (Nat.lt_of_lt_of_le A101.lt (Nat.le_trans z139 lob4_112))
      have F140 : Fld Z T123.heap b4_112 cC3 "coder" "B" (VI 0) := ((o2_112.keep K115 nin0).keep K123 (ninS (Ne.symm v138) nin0))
      have F141 : Fld Z T123.heap b4_112 cC3 "value" "[B" (VR b10_9_13_112) := ((o1_112.keep K115 nin0).keep K123 (ninS (Ne.symm v138) nin0))
      have v142 : b101 ≠ b10_9_13_112 := Exa.neArv (((A101.keep K108).keep K110).keep K112) o3_112 (WW hw 1)
      have F143 : Arv Z T123.heap b10_9_13_112 kb10_9_13_112 .byte 0 [] (VI 0) := ((o3_112.keep K115 nin0).keep K123 (ninS (Ne.symm v142) nin0))
      obtain ⟨_, T144, L144, X144, hQ144, st144⟩ := own_cV X128 hx hZ115 ho115 (WW hw 52) (WW hw 53) (notFace_of_selects (args := #[]) (mvT hZ115 (WW hw 55))) (WW hw 55) (WW hw 54) (WW hw 2) (WW hw 56) (rm9_1 l Z a0 hw [] b101 b4_110 G1 b10_9_13_110 kb10_9_13_110 b4_112 b10_9_13_112 kb10_9_13_112 T123.heap n0 (Nat.le_trans Z0 z127) o2_123 F129 O_G1 O130 P_G1 F133 F134 F136 o3_123 F137 F140 F141 F143) e128 o0_123 hml (g := (mkF m 48 #[SI p1, SI p2, SI p3, SI p4, SR b101, SI 1] [VR b101])) pd8 (hb hby at_48) [] [] (W := 0)
      obtain ⟨rfl, N144q, e144⟩ := hQ144
      have N144 := Fr.app N128 N144q
      refine own_go st144 ?_
      show own_Fin p e below _ T144 (mkF m 51 #[SI p1, SI p2, SI p3, SI p4, SR b101, SI 1] [VI 1])
      refine own_go (fun _ k => XS.iload X144.here hx rfl (hb hby at_51) rfl (XS.icmpNo X144.here hx rfl (hb hby at_53) rfl (teq (by decide : (1 : Int32) = (1 : Int32))).2 (XS.iconst X144.here hx rfl (hb hby at_56) (XS.goto X144.here hx rfl (pc0 := 57) (pc' := 61) rfl (hb hby at_57) (by decide) (by decide) k)))) ?_
      show own_Fin p e below _ T144 (mkF m 61 #[SI p1, SI p2, SI p3, SI p4, SR b101, SI 1] [VI 1])
      have z145 : T115.heap.size ≤ T123.heap.size := K123.1
      obtain ⟨fs, hr, hrun, hended, hend⟩ := Jvm.Stand.leaveW X144 hS115 (by rw [e144]; exact (Nat.le_trans (Nat.le_refl _) z145)) (v := some (.int (1 : Int32))) (fun h => by rw [hret] at h; cases h)
      refine own_end (retN X144 hx (t := .boolean) hret (by simp) (hb hby at_61) hr) hrun hended ⟨_, _, rfl, ?_, hend.1, hend.2.1, hend.2.2.1, hend.2.2.2.mono (by decide) (by decide)⟩
      show Q0 n0 _ T144.heap _
      rw [e144]
      exact ⟨rfl, N144⟩
    ·
      have O112 : Old Z n0 T110.heap := ((O107.keep K108 all0).keep K110 all0)
      have z114 : h0.size ≤ T110.heap.size := Nat.le_trans z111 K110.1
      by_cases hc2 : (((p2.toUInt32 >>> ((24 : Int32) &&& 31).toUInt32).toInt32) &&& (3 : Int32)) = (1 : Int32)
      ·
        obtain ⟨_, T113, L113, X113, hQ113, st113⟩ := own_cS X110 hx hZ110 ho110 (WW hw 3) (WW hw 4) (WW hw 5) (WW hw 6) (rm1_3 l Z a0 hw [] p2 G1 T110.heap n0 (Nat.le_trans Z0 z114) hc1 hc2 O_G1 O112 P_G1) rfl hml (g := (mkF m 13 #[SI p1, SI p2, SI p3, SI p4, SU, SU] [VI p2, VR b4_110, VR r0_108, VR b101, VR b101])) pd4 (hb hby at_13) [VI p2] [VR b4_110, VR r0_108, VR b101, VR b101] (W := 4)
        obtain ⟨b5_113, t16_113, kb16_113, rfl, N113q, K113, lob5_113, lot16_113, neb5t16_113, o0_113, o1_113, o2_113, o3_113⟩ := hQ113
        have hR115 := hR110.trans (CHr.keep K113 all0 hR110.1)
        have N113 := Fr.app N110 N113q
        refine own_go st113 ?_
        show own_Fin p e below _ T113 (mkF m 16 #[SI p1, SI p2, SI p3, SI p4, SU, SU] [VR b5_113, VR b4_110, VR r0_108, VR b101, VR b101])
        refine own_go (fun _ k => XS.iloadN X113.here hx rfl (hb hby at_16) rfl k) ?_
        show own_Fin p e below _ T113 (mkF m 17 #[SI p1, SI p2, SI p3, SI p4, SU, SU] [VI p4, VR b5_113, VR b4_110, VR r0_108, VR b101, VR b101])
        have O116 : Old Z n0 T113.heap := (O112.keep K113 all0)
        have z118 : h0.size ≤ T113.heap.size := Nat.le_trans z114 K113.1
        have z119 : T110.heap.size ≤ T113.heap.size := K113.1
        obtain ⟨_, T117, L117, X117, hQ117, hS117, hZ117, ho117, hC117, st117⟩ := own_cSH (vm0 := (s.setVm T110.vm).vm) X113 hx hZ110 ho110 hS110 (Nat.le_trans (Nat.le_refl _) z119) hEL hR115.1 (WW hw 3) (WW hw 4) (WW hw 5) (WW hw 6) (rm1_m3 l Z a0 hw [] p4 G1 T113.heap n0 (Nat.le_trans Z0 z118) O_G1 O116 P_G1) rfl hml (g := (mkF m 17 #[SI p1, SI p2, SI p3, SI p4, SU, SU] [VI p4, VR b5_113, VR b4_110, VR r0_108, VR b101, VR b101])) pd4 (hb hby at_17) [VI p4] [VR b5_113, VR b4_110, VR r0_108, VR b101, VR b101] (W := 5)
        have hR117 := hR115.trans hC117
        obtain ⟨r0_117, rfl, N117q, K117, o0_117⟩ := hQ117
        have N117 := Fr.app N113 N117q
        refine own_go st117 ?_
        show own_Fin p e below _ T117 (mkF m 20 #[SI p1, SI p2, SI p3, SI p4, SU, SU] [VR r0_117, VR b5_113, VR b4_110, VR r0_108, VR b101, VR b101])
        have F120 : Exa Z T117.heap b101 cC0 := ((((A101.keep K108).keep K110).keep K113).keep K117)
        have F121 : Fld Z T117.heap b101 cC0 "printed" cC1 (.null) := ((((F103.keep K108 nin0).keep K110 nin0).keep K113 nin0).keep K117 nin0)
        have F122 : Fld Z T117.heap b101 cC0 "article" cC1 (.null) := ((((F104.keep K108 nin0).keep K110 nin0).keep K113 nin0).keep K117 nin0)
        have F123 : Fld Z T117.heap b101 cC0 "clause" cC1 (.null) := ((((F105.keep K108 nin0).keep K110 nin0).keep K113 nin0).keep K117 nin0)
        have F124 : Fld Z T117.heap b101 cC0 "rest" cC1 (.null) := ((((F106.keep K108 nin0).keep K110 nin0).keep K113 nin0).keep K117 nin0)
        have u126 : n0 ≤ b101 := Nat.le_trans Z0 (Nat.le_of_eq g101.symm)
        have z127 : h0.size ≤ T117.heap.size := Nat.le_trans z118 K117.1
        obtain ⟨_, T125, L125, X125, hQ125, st125⟩ := own_cI X117 hx hZ117 ho117 (WW hw 32) (WW hw 33) (WW hw 2) (WW hw 34) (rm6_1 l Z a0 hw [] b101 r0_108 b4_110 b5_113 r0_117 T117.heap n0 (Nat.le_trans Z0 z127) F120 F121 u126 F122 F123 F124) rfl hml (g := (mkF m 20 #[SI p1, SI p2, SI p3, SI p4, SU, SU] [VR r0_117, VR b5_113, VR b4_110, VR r0_108, VR b101, VR b101])) pd6 (hb hby at_20) b101 [VR r0_108, VR b4_110, VR b5_113, VR r0_117] [VR b101] (W := 1)
        obtain ⟨rfl, N125q, K125, o0_125, o1_125, o2_125, o3_125, o4_125⟩ := hQ125
        have hR128 := hR117.trans (CHr.keep K125 (allS (Safe.exa (State.Warmed39.alike hZ117) F120 (by decide) (by decide)) all0) hR117.1)
        have N125 := Fr.app N117 N125q
        refine own_go st125 ?_
        show own_Fin p e below _ T125 (mkF m 23 #[SI p1, SI p2, SI p3, SI p4, SU, SU] [VR b101])
        refine own_go (fun _ k => XS.astore X125.here hx rfl (hb hby at_23) rfl rfl (l' := #[SI p1, SI p2, SI p3, SI p4, SR b101, SU]) rfl (XS.iloadN X125.here hx rfl (hb hby at_25) rfl k)) ?_
        show own_Fin p e below _ T125 (mkF m 26 #[SI p1, SI p2, SI p3, SI p4, SR b101, SU] [VI p1])
        have z130 : h0.size ≤ T125.heap.size := Nat.le_trans z127 K125.1
        obtain ⟨_, T129, L129, X129, hQ129, st129⟩ := own_cS X125 hx hZ117 ho117 (WW hw 49) (WW hw 50) (WW hw 5) (WW hw 51) (rm8_m7 l Z a0 hw [] p1 T125.heap n0 (Nat.le_trans Z0 z130) (by rw [hc0]; decide : (((p1.toUInt32 >>> ((24 : Int32) &&& 31).toUInt32).toInt32) &&& (3 : Int32)) < (1 : Int32)) (by rw [hc0]; decide : (((p1.toUInt32 >>> ((24 : Int32) &&& 31).toUInt32).toInt32) &&& (3 : Int32)) < (2 : Int32)) (by rw [hc0]; decide : (((p1.toUInt32 >>> ((24 : Int32) &&& 31).toUInt32).toInt32) &&& (3 : Int32)) < (3 : Int32))) rfl hml (g := (mkF m 26 #[SI p1, SI p2, SI p3, SI p4, SR b101, SU] [VI p1])) pd7 (hb hby at_26) [VI p1] [] (W := 0)
        obtain ⟨rfl, N129q, e129⟩ := hQ129
        have N129 := Fr.app N125 N129q
        refine own_go st129 ?_
        show own_Fin p e below _ T129 (mkF m 29 #[SI p1, SI p2, SI p3, SI p4, SR b101, SU] [VI 1])
        refine own_go (fun _ k => XS.ifNo X129.here hx rfl (hb hby at_29) rfl ((if0 _ _).trans (feq (by decide : ¬ ((1 : Int32) = (0 : Int32)))).1) (XS.iloadN X129.here hx rfl (hb hby at_32) rfl k)) ?_
        show own_Fin p e below _ T129 (mkF m 33 #[SI p1, SI p2, SI p3, SI p4, SR b101, SU] [VI p2])
        obtain ⟨_, T131, L131, X131, hQ131, st131⟩ := own_cS X129 hx hZ117 ho117 (WW hw 49) (WW hw 50) (WW hw 5) (WW hw 51) (rm8_m8 l Z a0 hw [] p2 T125.heap n0 (Nat.le_trans Z0 z130) (by rw [hc2]; decide : ¬ ((((p2.toUInt32 >>> ((24 : Int32) &&& 31).toUInt32).toInt32) &&& (3 : Int32)) < (1 : Int32))) (by rw [hc2]; decide : (((p2.toUInt32 >>> ((24 : Int32) &&& 31).toUInt32).toInt32) &&& (3 : Int32)) < (2 : Int32)) (by rw [hc2]; decide : (((p2.toUInt32 >>> ((24 : Int32) &&& 31).toUInt32).toInt32) &&& (3 : Int32)) < (3 : Int32))) e129 hml (g := (mkF m 33 #[SI p1, SI p2, SI p3, SI p4, SR b101, SU] [VI p2])) pd7 (hb hby at_33) [VI p2] [] (W := 0)
        obtain ⟨rfl, N131q, e131⟩ := hQ131
        have N131 := Fr.app N129 N131q
        refine own_go st131 ?_
        show own_Fin p e below _ T131 (mkF m 36 #[SI p1, SI p2, SI p3, SI p4, SR b101, SU] [VI (own_f8_m8 p2)])
        by_cases hc3 : (own_f8_m8 p2) = (0 : Int32)
        ·
          refine own_go (fun _ k => XS.ifYes X131.here hx rfl (pc0 := 36) (pc' := 43) rfl (hb hby at_36) rfl ((if0 _ _).trans (teq hc3).1) (by decide) (by decide) (XS.iconst X131.here hx rfl (hb hby at_43) (XS.istore X131.here hx rfl (hb hby at_44) rfl (l' := #[SI p1, SI p2, SI p3, SI p4, SR b101, SI 0]) rfl (XS.aload X131.here hx rfl (hb hby at_46) rfl rfl k)))) ?_
          show own_Fin p e below _ T131 (mkF m 48 #[SI p1, SI p2, SI p3, SI p4, SR b101, SI 0] [VR b101])
          have F132 : Exa Z T125.heap b4_110 cC3 := (((o0_110.keep K113).keep K117).keep K125)
          have O133 : Old Z n0 T125.heap := ((O116.keep K117 all0).keep K125 (allS u126 all0))
          have z135 : h101.size ≤ T108.heap.size := K108.1
          have v134 : b101 ≠ b4_110 := Nat.ne_of_lt (Nat.lt_of_lt_of_le A101.lt (Nat.le_trans z135 lob4_110))
          have F136 : Fld Z T125.heap b4_110 cC3 "coder" "B" (VI 0) := (((o2_110.keep K113 nin0).keep K117 nin0).keep K125 (ninS (Ne.symm v134) nin0))
          have F137 : Fld Z T125.heap b4_110 cC3 "value" "[B" (VR b10_9_13_110) := (((o1_110.keep K113 nin0).keep K117 nin0).keep K125 (ninS (Ne.symm v134) nin0))
          have v138 : b101 ≠ b10_9_13_110 := Exa.neArv ((A101.keep K108).keep K110) o3_110 (WW hw 1)
          have F139 : Arv Z T125.heap b10_9_13_110 kb10_9_13_110 .byte 0 [] (VI 0) := (((o3_110.keep K113 nin0).keep K117 nin0).keep K125 (ninS (Ne.symm v138) nin0))
          have F140 : Exa Z T125.heap b5_113 cC3 := ((o0_113.keep K117).keep K125)
          have z142 : h101.size ≤ T110.heap.size := Nat.le_trans z135 K110.1
          have v141 : b101 ≠ b5_113 := Nat.ne_of_lt (Nat.lt_of_lt_of_le A101.lt (Nat.le_trans z142 lob5_113))
          have F143 : Fld Z T125.heap b5_113 cC3 "coder" "B" (VI 0) := ((o1_113.keep K117 nin0).keep K125 (ninS (Ne.symm v141) nin0))
          have F144 : Fld Z T125.heap b5_113 cC3 "value" "[B" (VR t16_113) := ((o2_113.keep K117 nin0).keep K125 (ninS (Ne.symm v141) nin0))
          have v145 : b101 ≠ t16_113 := Nat.ne_of_lt (Nat.lt_of_lt_of_le A101.lt (Nat.le_trans z142 lot16_113))
          have F146 : Arv Z T125.heap t16_113 kb16_113 .byte 1 [VI ((nar .char (own_f19_m4 p2)).toInt8.toInt32)] (VI 0) := ((o3_113.keep K117 nin0).keep K125 (ninS (Ne.symm v145) nin0))
          obtain ⟨_, T147, L147, X147, hQ147, st147⟩ := own_cV X131 hx hZ117 ho117 (WW hw 52) (WW hw 53) (notFace_of_selects (args := #[]) (mvT hZ117 (WW hw 55))) (WW hw 55) (WW hw 54) (WW hw 2) (WW hw 56) (rm9_2 l Z a0 hw [] b101 b4_110 G1 b10_9_13_110 kb10_9_13_110 b5_113 t16_113 kb16_113 ((nar .char (own_f19_m4 p2)).toInt8.toInt32) T125.heap n0 (Nat.le_trans Z0 z130) o2_125 F132 O_G1 O133 P_G1 F136 F137 F139 o3_125 F140 F143 F144 F146 ((own_link_23_m12_8_m8 p2).1 hc3)) e131 o0_125 hml (g := (mkF m 48 #[SI p1, SI p2, SI p3, SI p4, SR b101, SI 0] [VR b101])) pd8 (hb hby at_48) [] [] (W := 0)
          obtain ⟨rfl, N147q, e147⟩ := hQ147
          have N147 := Fr.app N131 N147q
          refine own_go st147 ?_
          show own_Fin p e below _ T147 (mkF m 51 #[SI p1, SI p2, SI p3, SI p4, SR b101, SI 0] [VI 0])
          refine own_go (fun _ k => XS.iload X147.here hx rfl (hb hby at_51) rfl (XS.icmpNo X147.here hx rfl (hb hby at_53) rfl (teq (by decide : (0 : Int32) = (0 : Int32))).2 (XS.iconst X147.here hx rfl (hb hby at_56) (XS.goto X147.here hx rfl (pc0 := 57) (pc' := 61) rfl (hb hby at_57) (by decide) (by decide) k)))) ?_
          show own_Fin p e below _ T147 (mkF m 61 #[SI p1, SI p2, SI p3, SI p4, SR b101, SI 0] [VI 1])
          have z148 : T117.heap.size ≤ T125.heap.size := K125.1
          obtain ⟨fs, hr, hrun, hended, hend⟩ := Jvm.Stand.leaveW X147 hS117 (by rw [e147]; exact (Nat.le_trans (Nat.le_refl _) z148)) (v := some (.int (1 : Int32))) (fun h => by rw [hret] at h; cases h)
          refine own_end (retN X147 hx (t := .boolean) hret (by simp) (hb hby at_61) hr) hrun hended ⟨_, _, rfl, ?_, hend.1, hend.2.1, hend.2.2.1, hend.2.2.2.mono (by decide) (by decide)⟩
          show Q0 n0 _ T147.heap _
          rw [e147]
          exact ⟨rfl, N147⟩
        ·
          refine own_go (fun _ k => XS.ifNo X131.here hx rfl (hb hby at_36) rfl ((if0 _ _).trans (feq hc3).1) (XS.iconst X131.here hx rfl (hb hby at_39) (XS.goto X131.here hx rfl (pc0 := 40) (pc' := 44) rfl (hb hby at_40) (by decide) (by decide) (XS.istore X131.here hx rfl (hb hby at_44) rfl (l' := #[SI p1, SI p2, SI p3, SI p4, SR b101, SI 1]) rfl (XS.aload X131.here hx rfl (hb hby at_46) rfl rfl k))))) ?_
          show own_Fin p e below _ T131 (mkF m 48 #[SI p1, SI p2, SI p3, SI p4, SR b101, SI 1] [VR b101])
          have F132 : Exa Z T125.heap b4_110 cC3 := (((o0_110.keep K113).keep K117).keep K125)
          have O133 : Old Z n0 T125.heap := ((O116.keep K117 all0).keep K125 (allS u126 all0))
          have z135 : h101.size ≤ T108.heap.size := K108.1
          have v134 : b101 ≠ b4_110 := Nat.ne_of_lt (Nat.lt_of_lt_of_le A101.lt (Nat.le_trans z135 lob4_110))
          have F136 : Fld Z T125.heap b4_110 cC3 "coder" "B" (VI 0) := (((o2_110.keep K113 nin0).keep K117 nin0).keep K125 (ninS (Ne.symm v134) nin0))
          have F137 : Fld Z T125.heap b4_110 cC3 "value" "[B" (VR b10_9_13_110) := (((o1_110.keep K113 nin0).keep K117 nin0).keep K125 (ninS (Ne.symm v134) nin0))
          have v138 : b101 ≠ b10_9_13_110 := Exa.neArv ((A101.keep K108).keep K110) o3_110 (WW hw 1)
          have F139 : Arv Z T125.heap b10_9_13_110 kb10_9_13_110 .byte 0 [] (VI 0) := (((o3_110.keep K113 nin0).keep K117 nin0).keep K125 (ninS (Ne.symm v138) nin0))
          have F140 : Exa Z T125.heap b5_113 cC3 := ((o0_113.keep K117).keep K125)
          have z142 : h101.size ≤ T110.heap.size := Nat.le_trans z135 K110.1
          have v141 : b101 ≠ b5_113 := Nat.ne_of_lt (Nat.lt_of_lt_of_le A101.lt (Nat.le_trans z142 lob5_113))
          have F143 : Fld Z T125.heap b5_113 cC3 "coder" "B" (VI 0) := ((o1_113.keep K117 nin0).keep K125 (ninS (Ne.symm v141) nin0))
          have F144 : Fld Z T125.heap b5_113 cC3 "value" "[B" (VR t16_113) := ((o2_113.keep K117 nin0).keep K125 (ninS (Ne.symm v141) nin0))
          have v145 : b101 ≠ t16_113 := Nat.ne_of_lt (Nat.lt_of_lt_of_le A101.lt (Nat.le_trans z142 lot16_113))
          have F146 : Arv Z T125.heap t16_113 kb16_113 .byte 1 [VI ((nar .char (own_f19_m4 p2)).toInt8.toInt32)] (VI 0) := ((o3_113.keep K117 nin0).keep K125 (ninS (Ne.symm v145) nin0))
          obtain ⟨_, T147, L147, X147, hQ147, st147⟩ := own_cV X131 hx hZ117 ho117 (WW hw 52) (WW hw 53) (notFace_of_selects (args := #[]) (mvT hZ117 (WW hw 55))) (WW hw 55) (WW hw 54) (WW hw 2) (WW hw 56) (rm9_3 l Z a0 hw [] b101 b4_110 G1 b10_9_13_110 kb10_9_13_110 b5_113 t16_113 kb16_113 ((nar .char (own_f19_m4 p2)).toInt8.toInt32) T125.heap n0 (Nat.le_trans Z0 z130) o2_125 F132 O_G1 O133 P_G1 F136 F137 F139 o3_125 F140 F143 F144 F146 ((own_link_23_m12_8_m8 p2).2 hc3)) e131 o0_125 hml (g := (mkF m 48 #[SI p1, SI p2, SI p3, SI p4, SR b101, SI 1] [VR b101])) pd8 (hb hby at_48) [] [] (W := 0)
          obtain ⟨rfl, N147q, e147⟩ := hQ147
          have N147 := Fr.app N131 N147q
          refine own_go st147 ?_
          show own_Fin p e below _ T147 (mkF m 51 #[SI p1, SI p2, SI p3, SI p4, SR b101, SI 1] [VI 1])
          refine own_go (fun _ k => XS.iload X147.here hx rfl (hb hby at_51) rfl (XS.icmpNo X147.here hx rfl (hb hby at_53) rfl (teq (by decide : (1 : Int32) = (1 : Int32))).2 (XS.iconst X147.here hx rfl (hb hby at_56) (XS.goto X147.here hx rfl (pc0 := 57) (pc' := 61) rfl (hb hby at_57) (by decide) (by decide) k)))) ?_
          show own_Fin p e below _ T147 (mkF m 61 #[SI p1, SI p2, SI p3, SI p4, SR b101, SI 1] [VI 1])
          have z148 : T117.heap.size ≤ T125.heap.size := K125.1
          obtain ⟨fs, hr, hrun, hended, hend⟩ := Jvm.Stand.leaveW X147 hS117 (by rw [e147]; exact (Nat.le_trans (Nat.le_refl _) z148)) (v := some (.int (1 : Int32))) (fun h => by rw [hret] at h; cases h)
          refine own_end (retN X147 hx (t := .boolean) hret (by simp) (hb hby at_61) hr) hrun hended ⟨_, _, rfl, ?_, hend.1, hend.2.1, hend.2.2.1, hend.2.2.2.mono (by decide) (by decide)⟩
          show Q0 n0 _ T147.heap _
          rw [e147]
          exact ⟨rfl, N147⟩
      ·
        by_cases hc3 : (((p2.toUInt32 >>> ((24 : Int32) &&& 31).toUInt32).toInt32) &&& (3 : Int32)) = (2 : Int32)
        ·
          obtain ⟨_, T113, L113, X113, hQ113, st113⟩ := own_cS X110 hx hZ110 ho110 (WW hw 3) (WW hw 4) (WW hw 5) (WW hw 6) (rm1_4 l Z a0 hw [] p2 G1 T110.heap n0 (Nat.le_trans Z0 z114) hc1 hc2 hc3 O_G1 O112 P_G1) rfl hml (g := (mkF m 13 #[SI p1, SI p2, SI p3, SI p4, SU, SU] [VI p2, VR b4_110, VR r0_108, VR b101, VR b101])) pd4 (hb hby at_13) [VI p2] [VR b4_110, VR r0_108, VR b101, VR b101] (W := 4)
          obtain ⟨b6_113, t22_113, kb22_113, rfl, N113q, K113, lob6_113, lot22_113, neb6t22_113, o0_113, o1_113, o2_113, o3_113⟩ := hQ113
          have hR115 := hR110.trans (CHr.keep K113 all0 hR110.1)
          have N113 := Fr.app N110 N113q
          refine own_go st113 ?_
          show own_Fin p e below _ T113 (mkF m 16 #[SI p1, SI p2, SI p3, SI p4, SU, SU] [VR b6_113, VR b4_110, VR r0_108, VR b101, VR b101])
          refine own_go (fun _ k => XS.iloadN X113.here hx rfl (hb hby at_16) rfl k) ?_
          show own_Fin p e below _ T113 (mkF m 17 #[SI p1, SI p2, SI p3, SI p4, SU, SU] [VI p4, VR b6_113, VR b4_110, VR r0_108, VR b101, VR b101])
          have O116 : Old Z n0 T113.heap := (O112.keep K113 all0)
          have z118 : h0.size ≤ T113.heap.size := Nat.le_trans z114 K113.1
          have z119 : T110.heap.size ≤ T113.heap.size := K113.1
          obtain ⟨_, T117, L117, X117, hQ117, hS117, hZ117, ho117, hC117, st117⟩ := own_cSH (vm0 := (s.setVm T110.vm).vm) X113 hx hZ110 ho110 hS110 (Nat.le_trans (Nat.le_refl _) z119) hEL hR115.1 (WW hw 3) (WW hw 4) (WW hw 5) (WW hw 6) (rm1_m3 l Z a0 hw [] p4 G1 T113.heap n0 (Nat.le_trans Z0 z118) O_G1 O116 P_G1) rfl hml (g := (mkF m 17 #[SI p1, SI p2, SI p3, SI p4, SU, SU] [VI p4, VR b6_113, VR b4_110, VR r0_108, VR b101, VR b101])) pd4 (hb hby at_17) [VI p4] [VR b6_113, VR b4_110, VR r0_108, VR b101, VR b101] (W := 5)
          have hR117 := hR115.trans hC117
          obtain ⟨r0_117, rfl, N117q, K117, o0_117⟩ := hQ117
          have N117 := Fr.app N113 N117q
          refine own_go st117 ?_
          show own_Fin p e below _ T117 (mkF m 20 #[SI p1, SI p2, SI p3, SI p4, SU, SU] [VR r0_117, VR b6_113, VR b4_110, VR r0_108, VR b101, VR b101])
          have F120 : Exa Z T117.heap b101 cC0 := ((((A101.keep K108).keep K110).keep K113).keep K117)
          have F121 : Fld Z T117.heap b101 cC0 "printed" cC1 (.null) := ((((F103.keep K108 nin0).keep K110 nin0).keep K113 nin0).keep K117 nin0)
          have F122 : Fld Z T117.heap b101 cC0 "article" cC1 (.null) := ((((F104.keep K108 nin0).keep K110 nin0).keep K113 nin0).keep K117 nin0)
          have F123 : Fld Z T117.heap b101 cC0 "clause" cC1 (.null) := ((((F105.keep K108 nin0).keep K110 nin0).keep K113 nin0).keep K117 nin0)
          have F124 : Fld Z T117.heap b101 cC0 "rest" cC1 (.null) := ((((F106.keep K108 nin0).keep K110 nin0).keep K113 nin0).keep K117 nin0)
          have u126 : n0 ≤ b101 := Nat.le_trans Z0 (Nat.le_of_eq g101.symm)
          have z127 : h0.size ≤ T117.heap.size := Nat.le_trans z118 K117.1
          obtain ⟨_, T125, L125, X125, hQ125, st125⟩ := own_cI X117 hx hZ117 ho117 (WW hw 32) (WW hw 33) (WW hw 2) (WW hw 34) (rm6_1 l Z a0 hw [] b101 r0_108 b4_110 b6_113 r0_117 T117.heap n0 (Nat.le_trans Z0 z127) F120 F121 u126 F122 F123 F124) rfl hml (g := (mkF m 20 #[SI p1, SI p2, SI p3, SI p4, SU, SU] [VR r0_117, VR b6_113, VR b4_110, VR r0_108, VR b101, VR b101])) pd6 (hb hby at_20) b101 [VR r0_108, VR b4_110, VR b6_113, VR r0_117] [VR b101] (W := 1)
          obtain ⟨rfl, N125q, K125, o0_125, o1_125, o2_125, o3_125, o4_125⟩ := hQ125
          have hR128 := hR117.trans (CHr.keep K125 (allS (Safe.exa (State.Warmed39.alike hZ117) F120 (by decide) (by decide)) all0) hR117.1)
          have N125 := Fr.app N117 N125q
          refine own_go st125 ?_
          show own_Fin p e below _ T125 (mkF m 23 #[SI p1, SI p2, SI p3, SI p4, SU, SU] [VR b101])
          refine own_go (fun _ k => XS.astore X125.here hx rfl (hb hby at_23) rfl rfl (l' := #[SI p1, SI p2, SI p3, SI p4, SR b101, SU]) rfl (XS.iloadN X125.here hx rfl (hb hby at_25) rfl k)) ?_
          show own_Fin p e below _ T125 (mkF m 26 #[SI p1, SI p2, SI p3, SI p4, SR b101, SU] [VI p1])
          have z130 : h0.size ≤ T125.heap.size := Nat.le_trans z127 K125.1
          obtain ⟨_, T129, L129, X129, hQ129, st129⟩ := own_cS X125 hx hZ117 ho117 (WW hw 49) (WW hw 50) (WW hw 5) (WW hw 51) (rm8_m7 l Z a0 hw [] p1 T125.heap n0 (Nat.le_trans Z0 z130) (by rw [hc0]; decide : (((p1.toUInt32 >>> ((24 : Int32) &&& 31).toUInt32).toInt32) &&& (3 : Int32)) < (1 : Int32)) (by rw [hc0]; decide : (((p1.toUInt32 >>> ((24 : Int32) &&& 31).toUInt32).toInt32) &&& (3 : Int32)) < (2 : Int32)) (by rw [hc0]; decide : (((p1.toUInt32 >>> ((24 : Int32) &&& 31).toUInt32).toInt32) &&& (3 : Int32)) < (3 : Int32))) rfl hml (g := (mkF m 26 #[SI p1, SI p2, SI p3, SI p4, SR b101, SU] [VI p1])) pd7 (hb hby at_26) [VI p1] [] (W := 0)
          obtain ⟨rfl, N129q, e129⟩ := hQ129
          have N129 := Fr.app N125 N129q
          refine own_go st129 ?_
          show own_Fin p e below _ T129 (mkF m 29 #[SI p1, SI p2, SI p3, SI p4, SR b101, SU] [VI 1])
          refine own_go (fun _ k => XS.ifNo X129.here hx rfl (hb hby at_29) rfl ((if0 _ _).trans (feq (by decide : ¬ ((1 : Int32) = (0 : Int32)))).1) (XS.iloadN X129.here hx rfl (hb hby at_32) rfl k)) ?_
          show own_Fin p e below _ T129 (mkF m 33 #[SI p1, SI p2, SI p3, SI p4, SR b101, SU] [VI p2])
          obtain ⟨_, T131, L131, X131, hQ131, st131⟩ := own_cS X129 hx hZ117 ho117 (WW hw 49) (WW hw 50) (WW hw 5) (WW hw 51) (rm8_m13 l Z a0 hw [] p2 T125.heap n0 (Nat.le_trans Z0 z130) (by rw [hc3]; decide : ¬ ((((p2.toUInt32 >>> ((24 : Int32) &&& 31).toUInt32).toInt32) &&& (3 : Int32)) < (1 : Int32))) (by rw [hc3]; decide : ¬ ((((p2.toUInt32 >>> ((24 : Int32) &&& 31).toUInt32).toInt32) &&& (3 : Int32)) < (2 : Int32))) (by rw [hc3]; decide : (((p2.toUInt32 >>> ((24 : Int32) &&& 31).toUInt32).toInt32) &&& (3 : Int32)) < (3 : Int32))) e129 hml (g := (mkF m 33 #[SI p1, SI p2, SI p3, SI p4, SR b101, SU] [VI p2])) pd7 (hb hby at_33) [VI p2] [] (W := 0)
          obtain ⟨rfl, N131q, e131⟩ := hQ131
          have N131 := Fr.app N129 N131q
          refine own_go st131 ?_
          show own_Fin p e below _ T131 (mkF m 36 #[SI p1, SI p2, SI p3, SI p4, SR b101, SU] [VI (own_f8_m13 p2)])
          by_cases hc4 : (own_f8_m13 p2) = (0 : Int32)
          ·
            refine own_go (fun _ k => XS.ifYes X131.here hx rfl (pc0 := 36) (pc' := 43) rfl (hb hby at_36) rfl ((if0 _ _).trans (teq hc4).1) (by decide) (by decide) (XS.iconst X131.here hx rfl (hb hby at_43) (XS.istore X131.here hx rfl (hb hby at_44) rfl (l' := #[SI p1, SI p2, SI p3, SI p4, SR b101, SI 0]) rfl (XS.aload X131.here hx rfl (hb hby at_46) rfl rfl k)))) ?_
            show own_Fin p e below _ T131 (mkF m 48 #[SI p1, SI p2, SI p3, SI p4, SR b101, SI 0] [VR b101])
            have F132 : Exa Z T125.heap b4_110 cC3 := (((o0_110.keep K113).keep K117).keep K125)
            have O133 : Old Z n0 T125.heap := ((O116.keep K117 all0).keep K125 (allS u126 all0))
            have z135 : h101.size ≤ T108.heap.size := K108.1
            have v134 : b101 ≠ b4_110 := Nat.ne_of_lt (Nat.lt_of_lt_of_le A101.lt (Nat.le_trans z135 lob4_110))
            have F136 : Fld Z T125.heap b4_110 cC3 "coder" "B" (VI 0) := (((o2_110.keep K113 nin0).keep K117 nin0).keep K125 (ninS (Ne.symm v134) nin0))
            have F137 : Fld Z T125.heap b4_110 cC3 "value" "[B" (VR b10_9_13_110) := (((o1_110.keep K113 nin0).keep K117 nin0).keep K125 (ninS (Ne.symm v134) nin0))
            have v138 : b101 ≠ b10_9_13_110 := Exa.neArv ((A101.keep K108).keep K110) o3_110 (WW hw 1)
            have F139 : Arv Z T125.heap b10_9_13_110 kb10_9_13_110 .byte 0 [] (VI 0) := (((o3_110.keep K113 nin0).keep K117 nin0).keep K125 (ninS (Ne.symm v138) nin0))
            have F140 : Exa Z T125.heap b6_113 cC3 := ((o0_113.keep K117).keep K125)
            have z142 : h101.size ≤ T110.heap.size := Nat.le_trans z135 K110.1
            have v141 : b101 ≠ b6_113 := Nat.ne_of_lt (Nat.lt_of_lt_of_le A101.lt (Nat.le_trans z142 lob6_113))
            have F143 : Fld Z T125.heap b6_113 cC3 "coder" "B" (VI 0) := ((o1_113.keep K117 nin0).keep K125 (ninS (Ne.symm v141) nin0))
            have F144 : Fld Z T125.heap b6_113 cC3 "value" "[B" (VR t22_113) := ((o2_113.keep K117 nin0).keep K125 (ninS (Ne.symm v141) nin0))
            have v145 : b101 ≠ t22_113 := Nat.ne_of_lt (Nat.lt_of_lt_of_le A101.lt (Nat.le_trans z142 lot22_113))
            have F146 : Arv Z T125.heap t22_113 kb22_113 .byte 2 [VI ((nar .char (own_f19_m4 p2)).toInt8.toInt32), VI ((nar .char (own_f19_m5 p2)).toInt8.toInt32)] (VI 0) := ((o3_113.keep K117 nin0).keep K125 (ninS (Ne.symm v145) nin0))
            obtain ⟨_, T147, L147, X147, hQ147, st147⟩ := own_cV X131 hx hZ117 ho117 (WW hw 52) (WW hw 53) (notFace_of_selects (args := #[]) (mvT hZ117 (WW hw 55))) (WW hw 55) (WW hw 54) (WW hw 2) (WW hw 56) (rm9_4 l Z a0 hw [] b101 b4_110 G1 b10_9_13_110 kb10_9_13_110 b6_113 t22_113 kb22_113 ((nar .char (own_f19_m4 p2)).toInt8.toInt32) ((nar .char (own_f19_m5 p2)).toInt8.toInt32) T125.heap n0 (Nat.le_trans Z0 z130) o2_125 F132 O_G1 O133 P_G1 F136 F137 F139 o3_125 F140 F143 F144 F146 ((own_link_23_m17_8_m13 p2).1 hc4)) e131 o0_125 hml (g := (mkF m 48 #[SI p1, SI p2, SI p3, SI p4, SR b101, SI 0] [VR b101])) pd8 (hb hby at_48) [] [] (W := 0)
            obtain ⟨rfl, N147q, e147⟩ := hQ147
            have N147 := Fr.app N131 N147q
            refine own_go st147 ?_
            show own_Fin p e below _ T147 (mkF m 51 #[SI p1, SI p2, SI p3, SI p4, SR b101, SI 0] [VI 0])
            refine own_go (fun _ k => XS.iload X147.here hx rfl (hb hby at_51) rfl (XS.icmpNo X147.here hx rfl (hb hby at_53) rfl (teq (by decide : (0 : Int32) = (0 : Int32))).2 (XS.iconst X147.here hx rfl (hb hby at_56) (XS.goto X147.here hx rfl (pc0 := 57) (pc' := 61) rfl (hb hby at_57) (by decide) (by decide) k)))) ?_
            show own_Fin p e below _ T147 (mkF m 61 #[SI p1, SI p2, SI p3, SI p4, SR b101, SI 0] [VI 1])
            have z148 : T117.heap.size ≤ T125.heap.size := K125.1
            obtain ⟨fs, hr, hrun, hended, hend⟩ := Jvm.Stand.leaveW X147 hS117 (by rw [e147]; exact (Nat.le_trans (Nat.le_refl _) z148)) (v := some (.int (1 : Int32))) (fun h => by rw [hret] at h; cases h)
            refine own_end (retN X147 hx (t := .boolean) hret (by simp) (hb hby at_61) hr) hrun hended ⟨_, _, rfl, ?_, hend.1, hend.2.1, hend.2.2.1, hend.2.2.2.mono (by decide) (by decide)⟩
            show Q0 n0 _ T147.heap _
            rw [e147]
            exact ⟨rfl, N147⟩
          ·
            refine own_go (fun _ k => XS.ifNo X131.here hx rfl (hb hby at_36) rfl ((if0 _ _).trans (feq hc4).1) (XS.iconst X131.here hx rfl (hb hby at_39) (XS.goto X131.here hx rfl (pc0 := 40) (pc' := 44) rfl (hb hby at_40) (by decide) (by decide) (XS.istore X131.here hx rfl (hb hby at_44) rfl (l' := #[SI p1, SI p2, SI p3, SI p4, SR b101, SI 1]) rfl (XS.aload X131.here hx rfl (hb hby at_46) rfl rfl k))))) ?_
            show own_Fin p e below _ T131 (mkF m 48 #[SI p1, SI p2, SI p3, SI p4, SR b101, SI 1] [VR b101])
            have F132 : Exa Z T125.heap b4_110 cC3 := (((o0_110.keep K113).keep K117).keep K125)
            have O133 : Old Z n0 T125.heap := ((O116.keep K117 all0).keep K125 (allS u126 all0))
            have z135 : h101.size ≤ T108.heap.size := K108.1
            have v134 : b101 ≠ b4_110 := Nat.ne_of_lt (Nat.lt_of_lt_of_le A101.lt (Nat.le_trans z135 lob4_110))
            have F136 : Fld Z T125.heap b4_110 cC3 "coder" "B" (VI 0) := (((o2_110.keep K113 nin0).keep K117 nin0).keep K125 (ninS (Ne.symm v134) nin0))
            have F137 : Fld Z T125.heap b4_110 cC3 "value" "[B" (VR b10_9_13_110) := (((o1_110.keep K113 nin0).keep K117 nin0).keep K125 (ninS (Ne.symm v134) nin0))
            have v138 : b101 ≠ b10_9_13_110 := Exa.neArv ((A101.keep K108).keep K110) o3_110 (WW hw 1)
            have F139 : Arv Z T125.heap b10_9_13_110 kb10_9_13_110 .byte 0 [] (VI 0) := (((o3_110.keep K113 nin0).keep K117 nin0).keep K125 (ninS (Ne.symm v138) nin0))
            have F140 : Exa Z T125.heap b6_113 cC3 := ((o0_113.keep K117).keep K125)
            have z142 : h101.size ≤ T110.heap.size := Nat.le_trans z135 K110.1
            have v141 : b101 ≠ b6_113 := Nat.ne_of_lt (Nat.lt_of_lt_of_le A101.lt (Nat.le_trans z142 lob6_113))
            have F143 : Fld Z T125.heap b6_113 cC3 "coder" "B" (VI 0) := ((o1_113.keep K117 nin0).keep K125 (ninS (Ne.symm v141) nin0))
            have F144 : Fld Z T125.heap b6_113 cC3 "value" "[B" (VR t22_113) := ((o2_113.keep K117 nin0).keep K125 (ninS (Ne.symm v141) nin0))
            have v145 : b101 ≠ t22_113 := Nat.ne_of_lt (Nat.lt_of_lt_of_le A101.lt (Nat.le_trans z142 lot22_113))
            have F146 : Arv Z T125.heap t22_113 kb22_113 .byte 2 [VI ((nar .char (own_f19_m4 p2)).toInt8.toInt32), VI ((nar .char (own_f19_m5 p2)).toInt8.toInt32)] (VI 0) := ((o3_113.keep K117 nin0).keep K125 (ninS (Ne.symm v145) nin0))
            obtain ⟨_, T147, L147, X147, hQ147, st147⟩ := own_cV X131 hx hZ117 ho117 (WW hw 52) (WW hw 53) (notFace_of_selects (args := #[]) (mvT hZ117 (WW hw 55))) (WW hw 55) (WW hw 54) (WW hw 2) (WW hw 56) (rm9_5 l Z a0 hw [] b101 b4_110 G1 b10_9_13_110 kb10_9_13_110 b6_113 t22_113 kb22_113 ((nar .char (own_f19_m4 p2)).toInt8.toInt32) ((nar .char (own_f19_m5 p2)).toInt8.toInt32) T125.heap n0 (Nat.le_trans Z0 z130) o2_125 F132 O_G1 O133 P_G1 F136 F137 F139 o3_125 F140 F143 F144 F146 ((own_link_23_m17_8_m13 p2).2 hc4)) e131 o0_125 hml (g := (mkF m 48 #[SI p1, SI p2, SI p3, SI p4, SR b101, SI 1] [VR b101])) pd8 (hb hby at_48) [] [] (W := 0)
            obtain ⟨rfl, N147q, e147⟩ := hQ147
            have N147 := Fr.app N131 N147q
            refine own_go st147 ?_
            show own_Fin p e below _ T147 (mkF m 51 #[SI p1, SI p2, SI p3, SI p4, SR b101, SI 1] [VI 1])
            refine own_go (fun _ k => XS.iload X147.here hx rfl (hb hby at_51) rfl (XS.icmpNo X147.here hx rfl (hb hby at_53) rfl (teq (by decide : (1 : Int32) = (1 : Int32))).2 (XS.iconst X147.here hx rfl (hb hby at_56) (XS.goto X147.here hx rfl (pc0 := 57) (pc' := 61) rfl (hb hby at_57) (by decide) (by decide) k)))) ?_
            show own_Fin p e below _ T147 (mkF m 61 #[SI p1, SI p2, SI p3, SI p4, SR b101, SI 1] [VI 1])
            have z148 : T117.heap.size ≤ T125.heap.size := K125.1
            obtain ⟨fs, hr, hrun, hended, hend⟩ := Jvm.Stand.leaveW X147 hS117 (by rw [e147]; exact (Nat.le_trans (Nat.le_refl _) z148)) (v := some (.int (1 : Int32))) (fun h => by rw [hret] at h; cases h)
            refine own_end (retN X147 hx (t := .boolean) hret (by simp) (hb hby at_61) hr) hrun hended ⟨_, _, rfl, ?_, hend.1, hend.2.1, hend.2.2.1, hend.2.2.2.mono (by decide) (by decide)⟩
            show Q0 n0 _ T147.heap _
            rw [e147]
            exact ⟨rfl, N147⟩
        ·
          obtain ⟨_, T113, L113, X113, hQ113, st113⟩ := own_cS X110 hx hZ110 ho110 (WW hw 3) (WW hw 4) (WW hw 5) (WW hw 6) (rm1_5 l Z a0 hw [] p2 G1 T110.heap n0 (Nat.le_trans Z0 z114) hc1 hc2 hc3 O_G1 O112 P_G1) rfl hml (g := (mkF m 13 #[SI p1, SI p2, SI p3, SI p4, SU, SU] [VI p2, VR b4_110, VR r0_108, VR b101, VR b101])) pd4 (hb hby at_13) [VI p2] [VR b4_110, VR r0_108, VR b101, VR b101] (W := 4)
          obtain ⟨b6_113, t27_113, kb27_113, rfl, N113q, K113, lob6_113, lot27_113, neb6t27_113, o0_113, o1_113, o2_113, o3_113⟩ := hQ113
          have hR115 := hR110.trans (CHr.keep K113 all0 hR110.1)
          have N113 := Fr.app N110 N113q
          refine own_go st113 ?_
          show own_Fin p e below _ T113 (mkF m 16 #[SI p1, SI p2, SI p3, SI p4, SU, SU] [VR b6_113, VR b4_110, VR r0_108, VR b101, VR b101])
          refine own_go (fun _ k => XS.iloadN X113.here hx rfl (hb hby at_16) rfl k) ?_
          show own_Fin p e below _ T113 (mkF m 17 #[SI p1, SI p2, SI p3, SI p4, SU, SU] [VI p4, VR b6_113, VR b4_110, VR r0_108, VR b101, VR b101])
          have O116 : Old Z n0 T113.heap := (O112.keep K113 all0)
          have z118 : h0.size ≤ T113.heap.size := Nat.le_trans z114 K113.1
          have z119 : T110.heap.size ≤ T113.heap.size := K113.1
          obtain ⟨_, T117, L117, X117, hQ117, hS117, hZ117, ho117, hC117, st117⟩ := own_cSH (vm0 := (s.setVm T110.vm).vm) X113 hx hZ110 ho110 hS110 (Nat.le_trans (Nat.le_refl _) z119) hEL hR115.1 (WW hw 3) (WW hw 4) (WW hw 5) (WW hw 6) (rm1_m3 l Z a0 hw [] p4 G1 T113.heap n0 (Nat.le_trans Z0 z118) O_G1 O116 P_G1) rfl hml (g := (mkF m 17 #[SI p1, SI p2, SI p3, SI p4, SU, SU] [VI p4, VR b6_113, VR b4_110, VR r0_108, VR b101, VR b101])) pd4 (hb hby at_17) [VI p4] [VR b6_113, VR b4_110, VR r0_108, VR b101, VR b101] (W := 5)
          have hR117 := hR115.trans hC117
          obtain ⟨r0_117, rfl, N117q, K117, o0_117⟩ := hQ117
          have N117 := Fr.app N113 N117q
          refine own_go st117 ?_
          show own_Fin p e below _ T117 (mkF m 20 #[SI p1, SI p2, SI p3, SI p4, SU, SU] [VR r0_117, VR b6_113, VR b4_110, VR r0_108, VR b101, VR b101])
          have F120 : Exa Z T117.heap b101 cC0 := ((((A101.keep K108).keep K110).keep K113).keep K117)
          have F121 : Fld Z T117.heap b101 cC0 "printed" cC1 (.null) := ((((F103.keep K108 nin0).keep K110 nin0).keep K113 nin0).keep K117 nin0)
          have F122 : Fld Z T117.heap b101 cC0 "article" cC1 (.null) := ((((F104.keep K108 nin0).keep K110 nin0).keep K113 nin0).keep K117 nin0)
          have F123 : Fld Z T117.heap b101 cC0 "clause" cC1 (.null) := ((((F105.keep K108 nin0).keep K110 nin0).keep K113 nin0).keep K117 nin0)
          have F124 : Fld Z T117.heap b101 cC0 "rest" cC1 (.null) := ((((F106.keep K108 nin0).keep K110 nin0).keep K113 nin0).keep K117 nin0)
          have u126 : n0 ≤ b101 := Nat.le_trans Z0 (Nat.le_of_eq g101.symm)
          have z127 : h0.size ≤ T117.heap.size := Nat.le_trans z118 K117.1
          obtain ⟨_, T125, L125, X125, hQ125, st125⟩ := own_cI X117 hx hZ117 ho117 (WW hw 32) (WW hw 33) (WW hw 2) (WW hw 34) (rm6_1 l Z a0 hw [] b101 r0_108 b4_110 b6_113 r0_117 T117.heap n0 (Nat.le_trans Z0 z127) F120 F121 u126 F122 F123 F124) rfl hml (g := (mkF m 20 #[SI p1, SI p2, SI p3, SI p4, SU, SU] [VR r0_117, VR b6_113, VR b4_110, VR r0_108, VR b101, VR b101])) pd6 (hb hby at_20) b101 [VR r0_108, VR b4_110, VR b6_113, VR r0_117] [VR b101] (W := 1)
          obtain ⟨rfl, N125q, K125, o0_125, o1_125, o2_125, o3_125, o4_125⟩ := hQ125
          have hR128 := hR117.trans (CHr.keep K125 (allS (Safe.exa (State.Warmed39.alike hZ117) F120 (by decide) (by decide)) all0) hR117.1)
          have N125 := Fr.app N117 N125q
          refine own_go st125 ?_
          show own_Fin p e below _ T125 (mkF m 23 #[SI p1, SI p2, SI p3, SI p4, SU, SU] [VR b101])
          refine own_go (fun _ k => XS.astore X125.here hx rfl (hb hby at_23) rfl rfl (l' := #[SI p1, SI p2, SI p3, SI p4, SR b101, SU]) rfl (XS.iloadN X125.here hx rfl (hb hby at_25) rfl k)) ?_
          show own_Fin p e below _ T125 (mkF m 26 #[SI p1, SI p2, SI p3, SI p4, SR b101, SU] [VI p1])
          have z130 : h0.size ≤ T125.heap.size := Nat.le_trans z127 K125.1
          obtain ⟨_, T129, L129, X129, hQ129, st129⟩ := own_cS X125 hx hZ117 ho117 (WW hw 49) (WW hw 50) (WW hw 5) (WW hw 51) (rm8_m7 l Z a0 hw [] p1 T125.heap n0 (Nat.le_trans Z0 z130) (by rw [hc0]; decide : (((p1.toUInt32 >>> ((24 : Int32) &&& 31).toUInt32).toInt32) &&& (3 : Int32)) < (1 : Int32)) (by rw [hc0]; decide : (((p1.toUInt32 >>> ((24 : Int32) &&& 31).toUInt32).toInt32) &&& (3 : Int32)) < (2 : Int32)) (by rw [hc0]; decide : (((p1.toUInt32 >>> ((24 : Int32) &&& 31).toUInt32).toInt32) &&& (3 : Int32)) < (3 : Int32))) rfl hml (g := (mkF m 26 #[SI p1, SI p2, SI p3, SI p4, SR b101, SU] [VI p1])) pd7 (hb hby at_26) [VI p1] [] (W := 0)
          obtain ⟨rfl, N129q, e129⟩ := hQ129
          have N129 := Fr.app N125 N129q
          refine own_go st129 ?_
          show own_Fin p e below _ T129 (mkF m 29 #[SI p1, SI p2, SI p3, SI p4, SR b101, SU] [VI 1])
          refine own_go (fun _ k => XS.ifNo X129.here hx rfl (hb hby at_29) rfl ((if0 _ _).trans (feq (by decide : ¬ ((1 : Int32) = (0 : Int32)))).1) (XS.iloadN X129.here hx rfl (hb hby at_32) rfl k)) ?_
          show own_Fin p e below _ T129 (mkF m 33 #[SI p1, SI p2, SI p3, SI p4, SR b101, SU] [VI p2])
          obtain ⟨_, T131, L131, X131, hQ131, st131⟩ := own_cS X129 hx hZ117 ho117 (WW hw 49) (WW hw 50) (WW hw 5) (WW hw 51) (rm8_m18 l Z a0 hw [] p2 T125.heap n0 (Nat.le_trans Z0 z130) (by rw [(own_and3 ((p2.toUInt32 >>> ((24 : Int32) &&& 31).toUInt32).toInt32) hc1 hc2 hc3)]; decide : ¬ ((((p2.toUInt32 >>> ((24 : Int32) &&& 31).toUInt32).toInt32) &&& (3 : Int32)) < (1 : Int32))) (by rw [(own_and3 ((p2.toUInt32 >>> ((24 : Int32) &&& 31).toUInt32).toInt32) hc1 hc2 hc3)]; decide : ¬ ((((p2.toUInt32 >>> ((24 : Int32) &&& 31).toUInt32).toInt32) &&& (3 : Int32)) < (2 : Int32))) (by rw [(own_and3 ((p2.toUInt32 >>> ((24 : Int32) &&& 31).toUInt32).toInt32) hc1 hc2 hc3)]; decide : ¬ ((((p2.toUInt32 >>> ((24 : Int32) &&& 31).toUInt32).toInt32) &&& (3 : Int32)) < (3 : Int32)))) e129 hml (g := (mkF m 33 #[SI p1, SI p2, SI p3, SI p4, SR b101, SU] [VI p2])) pd7 (hb hby at_33) [VI p2] [] (W := 0)
          obtain ⟨rfl, N131q, e131⟩ := hQ131
          have N131 := Fr.app N129 N131q
          refine own_go st131 ?_
          show own_Fin p e below _ T131 (mkF m 36 #[SI p1, SI p2, SI p3, SI p4, SR b101, SU] [VI (own_f8_m18 p2)])
          by_cases hc4 : (own_f8_m18 p2) = (0 : Int32)
          ·
            refine own_go (fun _ k => XS.ifYes X131.here hx rfl (pc0 := 36) (pc' := 43) rfl (hb hby at_36) rfl ((if0 _ _).trans (teq hc4).1) (by decide) (by decide) (XS.iconst X131.here hx rfl (hb hby at_43) (XS.istore X131.here hx rfl (hb hby at_44) rfl (l' := #[SI p1, SI p2, SI p3, SI p4, SR b101, SI 0]) rfl (XS.aload X131.here hx rfl (hb hby at_46) rfl rfl k)))) ?_
            show own_Fin p e below _ T131 (mkF m 48 #[SI p1, SI p2, SI p3, SI p4, SR b101, SI 0] [VR b101])
            have F132 : Exa Z T125.heap b4_110 cC3 := (((o0_110.keep K113).keep K117).keep K125)
            have O133 : Old Z n0 T125.heap := ((O116.keep K117 all0).keep K125 (allS u126 all0))
            have z135 : h101.size ≤ T108.heap.size := K108.1
            have v134 : b101 ≠ b4_110 := Nat.ne_of_lt (Nat.lt_of_lt_of_le A101.lt (Nat.le_trans z135 lob4_110))
            have F136 : Fld Z T125.heap b4_110 cC3 "coder" "B" (VI 0) := (((o2_110.keep K113 nin0).keep K117 nin0).keep K125 (ninS (Ne.symm v134) nin0))
            have F137 : Fld Z T125.heap b4_110 cC3 "value" "[B" (VR b10_9_13_110) := (((o1_110.keep K113 nin0).keep K117 nin0).keep K125 (ninS (Ne.symm v134) nin0))
            have v138 : b101 ≠ b10_9_13_110 := Exa.neArv ((A101.keep K108).keep K110) o3_110 (WW hw 1)
            have F139 : Arv Z T125.heap b10_9_13_110 kb10_9_13_110 .byte 0 [] (VI 0) := (((o3_110.keep K113 nin0).keep K117 nin0).keep K125 (ninS (Ne.symm v138) nin0))
            have F140 : Exa Z T125.heap b6_113 cC3 := ((o0_113.keep K117).keep K125)
            have z142 : h101.size ≤ T110.heap.size := Nat.le_trans z135 K110.1
            have v141 : b101 ≠ b6_113 := Nat.ne_of_lt (Nat.lt_of_lt_of_le A101.lt (Nat.le_trans z142 lob6_113))
            have F143 : Fld Z T125.heap b6_113 cC3 "coder" "B" (VI 0) := ((o1_113.keep K117 nin0).keep K125 (ninS (Ne.symm v141) nin0))
            have F144 : Fld Z T125.heap b6_113 cC3 "value" "[B" (VR t27_113) := ((o2_113.keep K117 nin0).keep K125 (ninS (Ne.symm v141) nin0))
            have v145 : b101 ≠ t27_113 := Nat.ne_of_lt (Nat.lt_of_lt_of_le A101.lt (Nat.le_trans z142 lot27_113))
            have F146 : Arv Z T125.heap t27_113 kb27_113 .byte 3 [VI ((nar .char (own_f19_m4 p2)).toInt8.toInt32), VI ((nar .char (own_f19_m5 p2)).toInt8.toInt32), VI ((nar .char (own_f19_m6 p2)).toInt8.toInt32)] (VI 0) := ((o3_113.keep K117 nin0).keep K125 (ninS (Ne.symm v145) nin0))
            obtain ⟨_, T147, L147, X147, hQ147, st147⟩ := own_cV X131 hx hZ117 ho117 (WW hw 52) (WW hw 53) (notFace_of_selects (args := #[]) (mvT hZ117 (WW hw 55))) (WW hw 55) (WW hw 54) (WW hw 2) (WW hw 56) (rm9_6 l Z a0 hw [] b101 b4_110 G1 b10_9_13_110 kb10_9_13_110 b6_113 t27_113 kb27_113 ((nar .char (own_f19_m4 p2)).toInt8.toInt32) ((nar .char (own_f19_m5 p2)).toInt8.toInt32) ((nar .char (own_f19_m6 p2)).toInt8.toInt32) T125.heap n0 (Nat.le_trans Z0 z130) o2_125 F132 O_G1 O133 P_G1 F136 F137 F139 o3_125 F140 F143 F144 F146 ((own_link_23_m22_8_m18 p2).1 hc4)) e131 o0_125 hml (g := (mkF m 48 #[SI p1, SI p2, SI p3, SI p4, SR b101, SI 0] [VR b101])) pd8 (hb hby at_48) [] [] (W := 0)
            obtain ⟨rfl, N147q, e147⟩ := hQ147
            have N147 := Fr.app N131 N147q
            refine own_go st147 ?_
            show own_Fin p e below _ T147 (mkF m 51 #[SI p1, SI p2, SI p3, SI p4, SR b101, SI 0] [VI 0])
            refine own_go (fun _ k => XS.iload X147.here hx rfl (hb hby at_51) rfl (XS.icmpNo X147.here hx rfl (hb hby at_53) rfl (teq (by decide : (0 : Int32) = (0 : Int32))).2 (XS.iconst X147.here hx rfl (hb hby at_56) (XS.goto X147.here hx rfl (pc0 := 57) (pc' := 61) rfl (hb hby at_57) (by decide) (by decide) k)))) ?_
            show own_Fin p e below _ T147 (mkF m 61 #[SI p1, SI p2, SI p3, SI p4, SR b101, SI 0] [VI 1])
            have z148 : T117.heap.size ≤ T125.heap.size := K125.1
            obtain ⟨fs, hr, hrun, hended, hend⟩ := Jvm.Stand.leaveW X147 hS117 (by rw [e147]; exact (Nat.le_trans (Nat.le_refl _) z148)) (v := some (.int (1 : Int32))) (fun h => by rw [hret] at h; cases h)
            refine own_end (retN X147 hx (t := .boolean) hret (by simp) (hb hby at_61) hr) hrun hended ⟨_, _, rfl, ?_, hend.1, hend.2.1, hend.2.2.1, hend.2.2.2.mono (by decide) (by decide)⟩
            show Q0 n0 _ T147.heap _
            rw [e147]
            exact ⟨rfl, N147⟩
          ·
            refine own_go (fun _ k => XS.ifNo X131.here hx rfl (hb hby at_36) rfl ((if0 _ _).trans (feq hc4).1) (XS.iconst X131.here hx rfl (hb hby at_39) (XS.goto X131.here hx rfl (pc0 := 40) (pc' := 44) rfl (hb hby at_40) (by decide) (by decide) (XS.istore X131.here hx rfl (hb hby at_44) rfl (l' := #[SI p1, SI p2, SI p3, SI p4, SR b101, SI 1]) rfl (XS.aload X131.here hx rfl (hb hby at_46) rfl rfl k))))) ?_
            show own_Fin p e below _ T131 (mkF m 48 #[SI p1, SI p2, SI p3, SI p4, SR b101, SI 1] [VR b101])
            have F132 : Exa Z T125.heap b4_110 cC3 := (((o0_110.keep K113).keep K117).keep K125)
            have O133 : Old Z n0 T125.heap := ((O116.keep K117 all0).keep K125 (allS u126 all0))
            have z135 : h101.size ≤ T108.heap.size := K108.1
            have v134 : b101 ≠ b4_110 := Nat.ne_of_lt (Nat.lt_of_lt_of_le A101.lt (Nat.le_trans z135 lob4_110))
            have F136 : Fld Z T125.heap b4_110 cC3 "coder" "B" (VI 0) := (((o2_110.keep K113 nin0).keep K117 nin0).keep K125 (ninS (Ne.symm v134) nin0))
            have F137 : Fld Z T125.heap b4_110 cC3 "value" "[B" (VR b10_9_13_110) := (((o1_110.keep K113 nin0).keep K117 nin0).keep K125 (ninS (Ne.symm v134) nin0))
            have v138 : b101 ≠ b10_9_13_110 := Exa.neArv ((A101.keep K108).keep K110) o3_110 (WW hw 1)
            have F139 : Arv Z T125.heap b10_9_13_110 kb10_9_13_110 .byte 0 [] (VI 0) := (((o3_110.keep K113 nin0).keep K117 nin0).keep K125 (ninS (Ne.symm v138) nin0))
            have F140 : Exa Z T125.heap b6_113 cC3 := ((o0_113.keep K117).keep K125)
            have z142 : h101.size ≤ T110.heap.size := Nat.le_trans z135 K110.1
            have v141 : b101 ≠ b6_113 := Nat.ne_of_lt (Nat.lt_of_lt_of_le A101.lt (Nat.le_trans z142 lob6_113))
            have F143 : Fld Z T125.heap b6_113 cC3 "coder" "B" (VI 0) := ((o1_113.keep K117 nin0).keep K125 (ninS (Ne.symm v141) nin0))
            have F144 : Fld Z T125.heap b6_113 cC3 "value" "[B" (VR t27_113) := ((o2_113.keep K117 nin0).keep K125 (ninS (Ne.symm v141) nin0))
            have v145 : b101 ≠ t27_113 := Nat.ne_of_lt (Nat.lt_of_lt_of_le A101.lt (Nat.le_trans z142 lot27_113))
            have F146 : Arv Z T125.heap t27_113 kb27_113 .byte 3 [VI ((nar .char (own_f19_m4 p2)).toInt8.toInt32), VI ((nar .char (own_f19_m5 p2)).toInt8.toInt32), VI ((nar .char (own_f19_m6 p2)).toInt8.toInt32)] (VI 0) := ((o3_113.keep K117 nin0).keep K125 (ninS (Ne.symm v145) nin0))
            obtain ⟨_, T147, L147, X147, hQ147, st147⟩ := own_cV X131 hx hZ117 ho117 (WW hw 52) (WW hw 53) (notFace_of_selects (args := #[]) (mvT hZ117 (WW hw 55))) (WW hw 55) (WW hw 54) (WW hw 2) (WW hw 56) (rm9_7 l Z a0 hw [] b101 b4_110 G1 b10_9_13_110 kb10_9_13_110 b6_113 t27_113 kb27_113 ((nar .char (own_f19_m4 p2)).toInt8.toInt32) ((nar .char (own_f19_m5 p2)).toInt8.toInt32) ((nar .char (own_f19_m6 p2)).toInt8.toInt32) T125.heap n0 (Nat.le_trans Z0 z130) o2_125 F132 O_G1 O133 P_G1 F136 F137 F139 o3_125 F140 F143 F144 F146 ((own_link_23_m22_8_m18 p2).2 hc4)) e131 o0_125 hml (g := (mkF m 48 #[SI p1, SI p2, SI p3, SI p4, SR b101, SI 1] [VR b101])) pd8 (hb hby at_48) [] [] (W := 0)
            obtain ⟨rfl, N147q, e147⟩ := hQ147
            have N147 := Fr.app N131 N147q
            refine own_go st147 ?_
            show own_Fin p e below _ T147 (mkF m 51 #[SI p1, SI p2, SI p3, SI p4, SR b101, SI 1] [VI 1])
            refine own_go (fun _ k => XS.iload X147.here hx rfl (hb hby at_51) rfl (XS.icmpNo X147.here hx rfl (hb hby at_53) rfl (teq (by decide : (1 : Int32) = (1 : Int32))).2 (XS.iconst X147.here hx rfl (hb hby at_56) (XS.goto X147.here hx rfl (pc0 := 57) (pc' := 61) rfl (hb hby at_57) (by decide) (by decide) k)))) ?_
            show own_Fin p e below _ T147 (mkF m 61 #[SI p1, SI p2, SI p3, SI p4, SR b101, SI 1] [VI 1])
            have z148 : T117.heap.size ≤ T125.heap.size := K125.1
            obtain ⟨fs, hr, hrun, hended, hend⟩ := Jvm.Stand.leaveW X147 hS117 (by rw [e147]; exact (Nat.le_trans (Nat.le_refl _) z148)) (v := some (.int (1 : Int32))) (fun h => by rw [hret] at h; cases h)
            refine own_end (retN X147 hx (t := .boolean) hret (by simp) (hb hby at_61) hr) hrun hended ⟨_, _, rfl, ?_, hend.1, hend.2.1, hend.2.2.1, hend.2.2.2.mono (by decide) (by decide)⟩
            show Q0 n0 _ T147.heap _
            rw [e147]
            exact ⟨rfl, N147⟩
  ·
    have O110 : Old Z n0 T108.heap := (O107.keep K108 all0)
    have z112 : h0.size ≤ T108.heap.size := Nat.le_trans z109 K108.1
    by_cases hc1 : (((p1.toUInt32 >>> ((24 : Int32) &&& 31).toUInt32).toInt32) &&& (3 : Int32)) = (1 : Int32)
    ·
      obtain ⟨_, T111, L111, X111, hQ111, st111⟩ := own_cS X108 hx hZ108 ho108 (WW hw 3) (WW hw 4) (WW hw 5) (WW hw 6) (rm1_3 l Z a0 hw [] p1 G1 T108.heap n0 (Nat.le_trans Z0 z112) hc0 hc1 O_G1 O110 P_G1) rfl hml (g := (mkF m 9 #[SI p1, SI p2, SI p3, SI p4, SU, SU] [VI p1, VR r0_108, VR b101, VR b101])) pd4 (hb hby at_9) [VI p1] [VR r0_108, VR b101, VR b101] (W := 3)
      obtain ⟨b5_111, t16_111, kb16_111, rfl, N111q, K111, lob5_111, lot16_111, neb5t16_111, o0_111, o1_111, o2_111, o3_111⟩ := hQ111
      have hR113 := hR108.trans (CHr.keep K111 all0 hR108.1)
      have N111 := Fr.app N108 N111q
      refine own_go st111 ?_
      show own_Fin p e below _ T111 (mkF m 12 #[SI p1, SI p2, SI p3, SI p4, SU, SU] [VR b5_111, VR r0_108, VR b101, VR b101])
      refine own_go (fun _ k => XS.iloadN X111.here hx rfl (hb hby at_12) rfl k) ?_
      show own_Fin p e below _ T111 (mkF m 13 #[SI p1, SI p2, SI p3, SI p4, SU, SU] [VI p2, VR b5_111, VR r0_108, VR b101, VR b101])
      by_cases hc2 : (((p2.toUInt32 >>> ((24 : Int32) &&& 31).toUInt32).toInt32) &&& (3 : Int32)) = (0 : Int32)
      ·
        have z115 : h0.size ≤ T111.heap.size := Nat.le_trans z112 K111.1
        have z116 : T108.heap.size ≤ T111.heap.size := K111.1
        obtain ⟨_, T114, L114, X114, hQ114, hS114, hZ114, ho114, hC114, st114⟩ := own_cSH (vm0 := (s.setVm T108.vm).vm) X111 hx hZ108 ho108 hS108 (Nat.le_trans (Nat.le_refl _) z116) hEL hR113.1 (WW hw 3) (WW hw 4) (WW hw 5) (WW hw 6) (rm1_2 l Z a0 hw [] p2 T111.heap n0 (Nat.le_trans Z0 z115) hc2) rfl hml (g := (mkF m 13 #[SI p1, SI p2, SI p3, SI p4, SU, SU] [VI p2, VR b5_111, VR r0_108, VR b101, VR b101])) pd4 (hb hby at_13) [VI p2] [VR b5_111, VR r0_108, VR b101, VR b101] (W := 4)
        have hR114 := hR113.trans hC114
        obtain ⟨b4_114, b10_9_13_114, kb10_9_13_114, rfl, N114q, K114, lob4_114, o0_114, o1_114, o2_114, o3_114⟩ := hQ114
        have N114 := Fr.app N111 N114q
        refine own_go st114 ?_
        show own_Fin p e below _ T114 (mkF m 16 #[SI p1, SI p2, SI p3, SI p4, SU, SU] [VR b4_114, VR b5_111, VR r0_108, VR b101, VR b101])
        refine own_go (fun _ k => XS.iloadN X114.here hx rfl (hb hby at_16) rfl k) ?_
        show own_Fin p e below _ T114 (mkF m 17 #[SI p1, SI p2, SI p3, SI p4, SU, SU] [VI p4, VR b4_114, VR b5_111, VR r0_108, VR b101, VR b101])
        have O117 : Old Z n0 T114.heap := ((O110.keep K111 all0).keep K114 all0)
        have z119 : h0.size ≤ T114.heap.size := Nat.le_trans z115 K114.1
        obtain ⟨_, T118, L118, X118, hQ118, hS118, hZ118, ho118, hC118, st118⟩ := own_cSH (vm0 := (s.setVm T114.vm).vm) X114 hx hZ114 ho114 hS114 (Nat.le_refl _) hEL hR114.1 (WW hw 3) (WW hw 4) (WW hw 5) (WW hw 6) (rm1_m3 l Z a0 hw [] p4 G1 T114.heap n0 (Nat.le_trans Z0 z119) O_G1 O117 P_G1) rfl hml (g := (mkF m 17 #[SI p1, SI p2, SI p3, SI p4, SU, SU] [VI p4, VR b4_114, VR b5_111, VR r0_108, VR b101, VR b101])) pd4 (hb hby at_17) [VI p4] [VR b4_114, VR b5_111, VR r0_108, VR b101, VR b101] (W := 5)
        have hR118 := hR114.trans hC118
        obtain ⟨r0_118, rfl, N118q, K118, o0_118⟩ := hQ118
        have N118 := Fr.app N114 N118q
        refine own_go st118 ?_
        show own_Fin p e below _ T118 (mkF m 20 #[SI p1, SI p2, SI p3, SI p4, SU, SU] [VR r0_118, VR b4_114, VR b5_111, VR r0_108, VR b101, VR b101])
        have F120 : Exa Z T118.heap b101 cC0 := ((((A101.keep K108).keep K111).keep K114).keep K118)
        have F121 : Fld Z T118.heap b101 cC0 "printed" cC1 (.null) := ((((F103.keep K108 nin0).keep K111 nin0).keep K114 nin0).keep K118 nin0)
        have F122 : Fld Z T118.heap b101 cC0 "article" cC1 (.null) := ((((F104.keep K108 nin0).keep K111 nin0).keep K114 nin0).keep K118 nin0)
        have F123 : Fld Z T118.heap b101 cC0 "clause" cC1 (.null) := ((((F105.keep K108 nin0).keep K111 nin0).keep K114 nin0).keep K118 nin0)
        have F124 : Fld Z T118.heap b101 cC0 "rest" cC1 (.null) := ((((F106.keep K108 nin0).keep K111 nin0).keep K114 nin0).keep K118 nin0)
        have u126 : n0 ≤ b101 := Nat.le_trans Z0 (Nat.le_of_eq g101.symm)
        have z127 : h0.size ≤ T118.heap.size := Nat.le_trans z119 K118.1
        obtain ⟨_, T125, L125, X125, hQ125, st125⟩ := own_cI X118 hx hZ118 ho118 (WW hw 32) (WW hw 33) (WW hw 2) (WW hw 34) (rm6_1 l Z a0 hw [] b101 r0_108 b5_111 b4_114 r0_118 T118.heap n0 (Nat.le_trans Z0 z127) F120 F121 u126 F122 F123 F124) rfl hml (g := (mkF m 20 #[SI p1, SI p2, SI p3, SI p4, SU, SU] [VR r0_118, VR b4_114, VR b5_111, VR r0_108, VR b101, VR b101])) pd6 (hb hby at_20) b101 [VR r0_108, VR b5_111, VR b4_114, VR r0_118] [VR b101] (W := 1)
        obtain ⟨rfl, N125q, K125, o0_125, o1_125, o2_125, o3_125, o4_125⟩ := hQ125
        have hR128 := hR118.trans (CHr.keep K125 (allS (Safe.exa (State.Warmed39.alike hZ118) F120 (by decide) (by decide)) all0) hR118.1)
        have N125 := Fr.app N118 N125q
        refine own_go st125 ?_
        show own_Fin p e below _ T125 (mkF m 23 #[SI p1, SI p2, SI p3, SI p4, SU, SU] [VR b101])
        refine own_go (fun _ k => XS.astore X125.here hx rfl (hb hby at_23) rfl rfl (l' := #[SI p1, SI p2, SI p3, SI p4, SR b101, SU]) rfl (XS.iloadN X125.here hx rfl (hb hby at_25) rfl k)) ?_
        show own_Fin p e below _ T125 (mkF m 26 #[SI p1, SI p2, SI p3, SI p4, SR b101, SU] [VI p1])
        have z130 : h0.size ≤ T125.heap.size := Nat.le_trans z127 K125.1
        obtain ⟨_, T129, L129, X129, hQ129, st129⟩ := own_cS X125 hx hZ118 ho118 (WW hw 49) (WW hw 50) (WW hw 5) (WW hw 51) (rm8_m8 l Z a0 hw [] p1 T125.heap n0 (Nat.le_trans Z0 z130) (by rw [hc1]; decide : ¬ ((((p1.toUInt32 >>> ((24 : Int32) &&& 31).toUInt32).toInt32) &&& (3 : Int32)) < (1 : Int32))) (by rw [hc1]; decide : (((p1.toUInt32 >>> ((24 : Int32) &&& 31).toUInt32).toInt32) &&& (3 : Int32)) < (2 : Int32)) (by rw [hc1]; decide : (((p1.toUInt32 >>> ((24 : Int32) &&& 31).toUInt32).toInt32) &&& (3 : Int32)) < (3 : Int32))) rfl hml (g := (mkF m 26 #[SI p1, SI p2, SI p3, SI p4, SR b101, SU] [VI p1])) pd7 (hb hby at_26) [VI p1] [] (W := 0)
        obtain ⟨rfl, N129q, e129⟩ := hQ129
        have N129 := Fr.app N125 N129q
        refine own_go st129 ?_
        show own_Fin p e below _ T129 (mkF m 29 #[SI p1, SI p2, SI p3, SI p4, SR b101, SU] [VI (own_f8_m8 p1)])
        by_cases hc3 : (own_f8_m8 p1) = (0 : Int32)
        ·
          refine own_go (fun _ k => XS.ifYes X129.here hx rfl (pc0 := 29) (pc' := 43) rfl (hb hby at_29) rfl ((if0 _ _).trans (teq hc3).1) (by decide) (by decide) (XS.iconst X129.here hx rfl (hb hby at_43) (XS.istore X129.here hx rfl (hb hby at_44) rfl (l' := #[SI p1, SI p2, SI p3, SI p4, SR b101, SI 0]) rfl (XS.aload X129.here hx rfl (hb hby at_46) rfl rfl k)))) ?_
          show own_Fin p e below _ T129 (mkF m 48 #[SI p1, SI p2, SI p3, SI p4, SR b101, SI 0] [VR b101])
          have F131 : Exa Z T125.heap b5_111 cC3 := (((o0_111.keep K114).keep K118).keep K125)
          have O132 : Old Z n0 T125.heap := ((O117.keep K118 all0).keep K125 (allS u126 all0))
          have z134 : h101.size ≤ T108.heap.size := K108.1
          have v133 : b101 ≠ b5_111 := Nat.ne_of_lt (Nat.lt_of_lt_of_le A101.lt (Nat.le_trans z134 lob5_111))
          have F135 : Fld Z T125.heap b5_111 cC3 "coder" "B" (VI 0) := (((o1_111.keep K114 nin0).keep K118 nin0).keep K125 (ninS (Ne.symm v133) nin0))
          have F136 : Fld Z T125.heap b5_111 cC3 "value" "[B" (VR t16_111) := (((o2_111.keep K114 nin0).keep K118 nin0).keep K125 (ninS (Ne.symm v133) nin0))
          have v137 : b101 ≠ t16_111 := Nat.ne_of_lt (Nat.lt_of_lt_of_le A101.lt (Nat.le_trans z134 lot16_111))
          have F138 : Arv Z T125.heap t16_111 kb16_111 .byte 1 [VI ((nar .char (own_f19_m4 p1)).toInt8.toInt32)] (VI 0) := (((o3_111.keep K114 nin0).keep K118 nin0).keep K125 (ninS (Ne.symm v137) nin0))
          obtain ⟨_, T139, L139, X139, hQ139, st139⟩ := own_cV X129 hx hZ118 ho118 (WW hw 52) (WW hw 53) (notFace_of_selects (args := #[]) (mvT hZ118 (WW hw 55))) (WW hw 55) (WW hw 54) (WW hw 2) (WW hw 56) (rm9_8 l Z a0 hw [] b101 b5_111 G1 t16_111 kb16_111 ((nar .char (own_f19_m4 p1)).toInt8.toInt32) T125.heap n0 (Nat.le_trans Z0 z130) o2_125 F131 O_G1 O132 P_G1 F135 F136 F138 ((own_link_23_m12_8_m8 p1).1 hc3)) e129 o0_125 hml (g := (mkF m 48 #[SI p1, SI p2, SI p3, SI p4, SR b101, SI 0] [VR b101])) pd8 (hb hby at_48) [] [] (W := 0)
          obtain ⟨rfl, N139q, e139⟩ := hQ139
          have N139 := Fr.app N129 N139q
          refine own_go st139 ?_
          show own_Fin p e below _ T139 (mkF m 51 #[SI p1, SI p2, SI p3, SI p4, SR b101, SI 0] [VI 0])
          refine own_go (fun _ k => XS.iload X139.here hx rfl (hb hby at_51) rfl (XS.icmpNo X139.here hx rfl (hb hby at_53) rfl (teq (by decide : (0 : Int32) = (0 : Int32))).2 (XS.iconst X139.here hx rfl (hb hby at_56) (XS.goto X139.here hx rfl (pc0 := 57) (pc' := 61) rfl (hb hby at_57) (by decide) (by decide) k)))) ?_
          show own_Fin p e below _ T139 (mkF m 61 #[SI p1, SI p2, SI p3, SI p4, SR b101, SI 0] [VI 1])
          have z140 : T118.heap.size ≤ T125.heap.size := K125.1
          obtain ⟨fs, hr, hrun, hended, hend⟩ := Jvm.Stand.leaveW X139 hS118 (by rw [e139]; exact (Nat.le_trans (Nat.le_refl _) z140)) (v := some (.int (1 : Int32))) (fun h => by rw [hret] at h; cases h)
          refine own_end (retN X139 hx (t := .boolean) hret (by simp) (hb hby at_61) hr) hrun hended ⟨_, _, rfl, ?_, hend.1, hend.2.1, hend.2.2.1, hend.2.2.2.mono (by decide) (by decide)⟩
          show Q0 n0 _ T139.heap _
          rw [e139]
          exact ⟨rfl, N139⟩
        ·
          refine own_go (fun _ k => XS.ifNo X129.here hx rfl (hb hby at_29) rfl ((if0 _ _).trans (feq hc3).1) (XS.iloadN X129.here hx rfl (hb hby at_32) rfl k)) ?_
          show own_Fin p e below _ T129 (mkF m 33 #[SI p1, SI p2, SI p3, SI p4, SR b101, SU] [VI p2])
          obtain ⟨_, T131, L131, X131, hQ131, st131⟩ := own_cS X129 hx hZ118 ho118 (WW hw 49) (WW hw 50) (WW hw 5) (WW hw 51) (rm8_m7 l Z a0 hw [] p2 T125.heap n0 (Nat.le_trans Z0 z130) (by rw [hc2]; decide : (((p2.toUInt32 >>> ((24 : Int32) &&& 31).toUInt32).toInt32) &&& (3 : Int32)) < (1 : Int32)) (by rw [hc2]; decide : (((p2.toUInt32 >>> ((24 : Int32) &&& 31).toUInt32).toInt32) &&& (3 : Int32)) < (2 : Int32)) (by rw [hc2]; decide : (((p2.toUInt32 >>> ((24 : Int32) &&& 31).toUInt32).toInt32) &&& (3 : Int32)) < (3 : Int32))) e129 hml (g := (mkF m 33 #[SI p1, SI p2, SI p3, SI p4, SR b101, SU] [VI p2])) pd7 (hb hby at_33) [VI p2] [] (W := 0)
          obtain ⟨rfl, N131q, e131⟩ := hQ131
          have N131 := Fr.app N129 N131q
          refine own_go st131 ?_
          show own_Fin p e below _ T131 (mkF m 36 #[SI p1, SI p2, SI p3, SI p4, SR b101, SU] [VI 1])
          refine own_go (fun _ k => XS.ifNo X131.here hx rfl (hb hby at_36) rfl ((if0 _ _).trans (feq (by decide : ¬ ((1 : Int32) = (0 : Int32)))).1) (XS.iconst X131.here hx rfl (hb hby at_39) (XS.goto X131.here hx rfl (pc0 := 40) (pc' := 44) rfl (hb hby at_40) (by decide) (by decide) (XS.istore X131.here hx rfl (hb hby at_44) rfl (l' := #[SI p1, SI p2, SI p3, SI p4, SR b101, SI 1]) rfl (XS.aload X131.here hx rfl (hb hby at_46) rfl rfl k))))) ?_
          show own_Fin p e below _ T131 (mkF m 48 #[SI p1, SI p2, SI p3, SI p4, SR b101, SI 1] [VR b101])
          have F132 : Exa Z T125.heap b5_111 cC3 := (((o0_111.keep K114).keep K118).keep K125)
          have O133 : Old Z n0 T125.heap := ((O117.keep K118 all0).keep K125 (allS u126 all0))
          have z135 : h101.size ≤ T108.heap.size := K108.1
          have v134 : b101 ≠ b5_111 := Nat.ne_of_lt (Nat.lt_of_lt_of_le A101.lt (Nat.le_trans z135 lob5_111))
          have F136 : Fld Z T125.heap b5_111 cC3 "coder" "B" (VI 0) := (((o1_111.keep K114 nin0).keep K118 nin0).keep K125 (ninS (Ne.symm v134) nin0))
          have F137 : Fld Z T125.heap b5_111 cC3 "value" "[B" (VR t16_111) := (((o2_111.keep K114 nin0).keep K118 nin0).keep K125 (ninS (Ne.symm v134) nin0))
          have v138 : b101 ≠ t16_111 := Nat.ne_of_lt (Nat.lt_of_lt_of_le A101.lt (Nat.le_trans z135 lot16_111))
          have F139 : Arv Z T125.heap t16_111 kb16_111 .byte 1 [VI ((nar .char (own_f19_m4 p1)).toInt8.toInt32)] (VI 0) := (((o3_111.keep K114 nin0).keep K118 nin0).keep K125 (ninS (Ne.symm v138) nin0))
          have F140 : Exa Z T125.heap b4_114 cC3 := ((o0_114.keep K118).keep K125)
          have z142 : h101.size ≤ T111.heap.size := Nat.le_trans z135 K111.1
          have v141 : b101 ≠ b4_114 := Nat.ne_of_lt (Nat.lt_of_lt_of_le A101.lt (Nat.le_trans z142 lob4_114))
          have F143 : Fld Z T125.heap b4_114 cC3 "coder" "B" (VI 0) := ((o2_114.keep K118 nin0).keep K125 (ninS (Ne.symm v141) nin0))
          have F144 : Fld Z T125.heap b4_114 cC3 "value" "[B" (VR b10_9_13_114) := ((o1_114.keep K118 nin0).keep K125 (ninS (Ne.symm v141) nin0))
          have v145 : b101 ≠ b10_9_13_114 := Exa.neArv (((A101.keep K108).keep K111).keep K114) o3_114 (WW hw 1)
          have F146 : Arv Z T125.heap b10_9_13_114 kb10_9_13_114 .byte 0 [] (VI 0) := ((o3_114.keep K118 nin0).keep K125 (ninS (Ne.symm v145) nin0))
          obtain ⟨_, T147, L147, X147, hQ147, st147⟩ := own_cV X131 hx hZ118 ho118 (WW hw 52) (WW hw 53) (notFace_of_selects (args := #[]) (mvT hZ118 (WW hw 55))) (WW hw 55) (WW hw 54) (WW hw 2) (WW hw 56) (rm9_9 l Z a0 hw [] b101 b5_111 G1 t16_111 kb16_111 ((nar .char (own_f19_m4 p1)).toInt8.toInt32) b4_114 b10_9_13_114 kb10_9_13_114 T125.heap n0 (Nat.le_trans Z0 z130) o2_125 F132 O_G1 O133 P_G1 F136 F137 F139 ((own_link_23_m12_8_m8 p1).2 hc3) o3_125 F140 F143 F144 F146) e131 o0_125 hml (g := (mkF m 48 #[SI p1, SI p2, SI p3, SI p4, SR b101, SI 1] [VR b101])) pd8 (hb hby at_48) [] [] (W := 0)
          obtain ⟨rfl, N147q, e147⟩ := hQ147
          have N147 := Fr.app N131 N147q
          refine own_go st147 ?_
          show own_Fin p e below _ T147 (mkF m 51 #[SI p1, SI p2, SI p3, SI p4, SR b101, SI 1] [VI 1])
          refine own_go (fun _ k => XS.iload X147.here hx rfl (hb hby at_51) rfl (XS.icmpNo X147.here hx rfl (hb hby at_53) rfl (teq (by decide : (1 : Int32) = (1 : Int32))).2 (XS.iconst X147.here hx rfl (hb hby at_56) (XS.goto X147.here hx rfl (pc0 := 57) (pc' := 61) rfl (hb hby at_57) (by decide) (by decide) k)))) ?_
          show own_Fin p e below _ T147 (mkF m 61 #[SI p1, SI p2, SI p3, SI p4, SR b101, SI 1] [VI 1])
          have z148 : T118.heap.size ≤ T125.heap.size := K125.1
          obtain ⟨fs, hr, hrun, hended, hend⟩ := Jvm.Stand.leaveW X147 hS118 (by rw [e147]; exact (Nat.le_trans (Nat.le_refl _) z148)) (v := some (.int (1 : Int32))) (fun h => by rw [hret] at h; cases h)
          refine own_end (retN X147 hx (t := .boolean) hret (by simp) (hb hby at_61) hr) hrun hended ⟨_, _, rfl, ?_, hend.1, hend.2.1, hend.2.2.1, hend.2.2.2.mono (by decide) (by decide)⟩
          show Q0 n0 _ T147.heap _
          rw [e147]
          exact ⟨rfl, N147⟩
      ·
        have O114 : Old Z n0 T111.heap := (O110.keep K111 all0)
        have z116 : h0.size ≤ T111.heap.size := Nat.le_trans z112 K111.1
        by_cases hc3 : (((p2.toUInt32 >>> ((24 : Int32) &&& 31).toUInt32).toInt32) &&& (3 : Int32)) = (1 : Int32)
        ·
          obtain ⟨_, T115, L115, X115, hQ115, st115⟩ := own_cS X111 hx hZ108 ho108 (WW hw 3) (WW hw 4) (WW hw 5) (WW hw 6) (rm1_3 l Z a0 hw [] p2 G1 T111.heap n0 (Nat.le_trans Z0 z116) hc2 hc3 O_G1 O114 P_G1) rfl hml (g := (mkF m 13 #[SI p1, SI p2, SI p3, SI p4, SU, SU] [VI p2, VR b5_111, VR r0_108, VR b101, VR b101])) pd4 (hb hby at_13) [VI p2] [VR b5_111, VR r0_108, VR b101, VR b101] (W := 4)
          obtain ⟨b5_115, t16_115, kb16_115, rfl, N115q, K115, lob5_115, lot16_115, neb5t16_115, o0_115, o1_115, o2_115, o3_115⟩ := hQ115
          have hR117 := hR113.trans (CHr.keep K115 all0 hR113.1)
          have N115 := Fr.app N111 N115q
          refine own_go st115 ?_
          show own_Fin p e below _ T115 (mkF m 16 #[SI p1, SI p2, SI p3, SI p4, SU, SU] [VR b5_115, VR b5_111, VR r0_108, VR b101, VR b101])
          refine own_go (fun _ k => XS.iloadN X115.here hx rfl (hb hby at_16) rfl k) ?_
          show own_Fin p e below _ T115 (mkF m 17 #[SI p1, SI p2, SI p3, SI p4, SU, SU] [VI p4, VR b5_115, VR b5_111, VR r0_108, VR b101, VR b101])
          have O118 : Old Z n0 T115.heap := (O114.keep K115 all0)
          have z120 : h0.size ≤ T115.heap.size := Nat.le_trans z116 K115.1
          have z121 : T108.heap.size ≤ T111.heap.size := K111.1
          have z122 : T108.heap.size ≤ T115.heap.size := Nat.le_trans z121 K115.1
          obtain ⟨_, T119, L119, X119, hQ119, hS119, hZ119, ho119, hC119, st119⟩ := own_cSH (vm0 := (s.setVm T108.vm).vm) X115 hx hZ108 ho108 hS108 (Nat.le_trans (Nat.le_refl _) z122) hEL hR117.1 (WW hw 3) (WW hw 4) (WW hw 5) (WW hw 6) (rm1_m3 l Z a0 hw [] p4 G1 T115.heap n0 (Nat.le_trans Z0 z120) O_G1 O118 P_G1) rfl hml (g := (mkF m 17 #[SI p1, SI p2, SI p3, SI p4, SU, SU] [VI p4, VR b5_115, VR b5_111, VR r0_108, VR b101, VR b101])) pd4 (hb hby at_17) [VI p4] [VR b5_115, VR b5_111, VR r0_108, VR b101, VR b101] (W := 5)
          have hR119 := hR117.trans hC119
          obtain ⟨r0_119, rfl, N119q, K119, o0_119⟩ := hQ119
          have N119 := Fr.app N115 N119q
          refine own_go st119 ?_
          show own_Fin p e below _ T119 (mkF m 20 #[SI p1, SI p2, SI p3, SI p4, SU, SU] [VR r0_119, VR b5_115, VR b5_111, VR r0_108, VR b101, VR b101])
          have F123 : Exa Z T119.heap b101 cC0 := ((((A101.keep K108).keep K111).keep K115).keep K119)
          have F124 : Fld Z T119.heap b101 cC0 "printed" cC1 (.null) := ((((F103.keep K108 nin0).keep K111 nin0).keep K115 nin0).keep K119 nin0)
          have F125 : Fld Z T119.heap b101 cC0 "article" cC1 (.null) := ((((F104.keep K108 nin0).keep K111 nin0).keep K115 nin0).keep K119 nin0)
          have F126 : Fld Z T119.heap b101 cC0 "clause" cC1 (.null) := ((((F105.keep K108 nin0).keep K111 nin0).keep K115 nin0).keep K119 nin0)
          have F127 : Fld Z T119.heap b101 cC0 "rest" cC1 (.null) := ((((F106.keep K108 nin0).keep K111 nin0).keep K115 nin0).keep K119 nin0)
          have u129 : n0 ≤ b101 := Nat.le_trans Z0 (Nat.le_of_eq g101.symm)
          have z130 : h0.size ≤ T119.heap.size := Nat.le_trans z120 K119.1
          obtain ⟨_, T128, L128, X128, hQ128, st128⟩ := own_cI X119 hx hZ119 ho119 (WW hw 32) (WW hw 33) (WW hw 2) (WW hw 34) (rm6_1 l Z a0 hw [] b101 r0_108 b5_111 b5_115 r0_119 T119.heap n0 (Nat.le_trans Z0 z130) F123 F124 u129 F125 F126 F127) rfl hml (g := (mkF m 20 #[SI p1, SI p2, SI p3, SI p4, SU, SU] [VR r0_119, VR b5_115, VR b5_111, VR r0_108, VR b101, VR b101])) pd6 (hb hby at_20) b101 [VR r0_108, VR b5_111, VR b5_115, VR r0_119] [VR b101] (W := 1)
          obtain ⟨rfl, N128q, K128, o0_128, o1_128, o2_128, o3_128, o4_128⟩ := hQ128
          have hR131 := hR119.trans (CHr.keep K128 (allS (Safe.exa (State.Warmed39.alike hZ119) F123 (by decide) (by decide)) all0) hR119.1)
          have N128 := Fr.app N119 N128q
          refine own_go st128 ?_
          show own_Fin p e below _ T128 (mkF m 23 #[SI p1, SI p2, SI p3, SI p4, SU, SU] [VR b101])
          refine own_go (fun _ k => XS.astore X128.here hx rfl (hb hby at_23) rfl rfl (l' := #[SI p1, SI p2, SI p3, SI p4, SR b101, SU]) rfl (XS.iloadN X128.here hx rfl (hb hby at_25) rfl k)) ?_
          show own_Fin p e below _ T128 (mkF m 26 #[SI p1, SI p2, SI p3, SI p4, SR b101, SU] [VI p1])
          have z133 : h0.size ≤ T128.heap.size := Nat.le_trans z130 K128.1
          obtain ⟨_, T132, L132, X132, hQ132, st132⟩ := own_cS X128 hx hZ119 ho119 (WW hw 49) (WW hw 50) (WW hw 5) (WW hw 51) (rm8_m8 l Z a0 hw [] p1 T128.heap n0 (Nat.le_trans Z0 z133) (by rw [hc1]; decide : ¬ ((((p1.toUInt32 >>> ((24 : Int32) &&& 31).toUInt32).toInt32) &&& (3 : Int32)) < (1 : Int32))) (by rw [hc1]; decide : (((p1.toUInt32 >>> ((24 : Int32) &&& 31).toUInt32).toInt32) &&& (3 : Int32)) < (2 : Int32)) (by rw [hc1]; decide : (((p1.toUInt32 >>> ((24 : Int32) &&& 31).toUInt32).toInt32) &&& (3 : Int32)) < (3 : Int32))) rfl hml (g := (mkF m 26 #[SI p1, SI p2, SI p3, SI p4, SR b101, SU] [VI p1])) pd7 (hb hby at_26) [VI p1] [] (W := 0)
          obtain ⟨rfl, N132q, e132⟩ := hQ132
          have N132 := Fr.app N128 N132q
          refine own_go st132 ?_
          show own_Fin p e below _ T132 (mkF m 29 #[SI p1, SI p2, SI p3, SI p4, SR b101, SU] [VI (own_f8_m8 p1)])
          by_cases hc4 : (own_f8_m8 p1) = (0 : Int32)
          ·
            refine own_go (fun _ k => XS.ifYes X132.here hx rfl (pc0 := 29) (pc' := 43) rfl (hb hby at_29) rfl ((if0 _ _).trans (teq hc4).1) (by decide) (by decide) (XS.iconst X132.here hx rfl (hb hby at_43) (XS.istore X132.here hx rfl (hb hby at_44) rfl (l' := #[SI p1, SI p2, SI p3, SI p4, SR b101, SI 0]) rfl (XS.aload X132.here hx rfl (hb hby at_46) rfl rfl k)))) ?_
            show own_Fin p e below _ T132 (mkF m 48 #[SI p1, SI p2, SI p3, SI p4, SR b101, SI 0] [VR b101])
            have F134 : Exa Z T128.heap b5_111 cC3 := (((o0_111.keep K115).keep K119).keep K128)
            have O135 : Old Z n0 T128.heap := ((O118.keep K119 all0).keep K128 (allS u129 all0))
            have z137 : h101.size ≤ T108.heap.size := K108.1
            have v136 : b101 ≠ b5_111 := Nat.ne_of_lt (Nat.lt_of_lt_of_le A101.lt (Nat.le_trans z137 lob5_111))
            have F138 : Fld Z T128.heap b5_111 cC3 "coder" "B" (VI 0) := (((o1_111.keep K115 nin0).keep K119 nin0).keep K128 (ninS (Ne.symm v136) nin0))
            have F139 : Fld Z T128.heap b5_111 cC3 "value" "[B" (VR t16_111) := (((o2_111.keep K115 nin0).keep K119 nin0).keep K128 (ninS (Ne.symm v136) nin0))
            have v140 : b101 ≠ t16_111 := Nat.ne_of_lt (Nat.lt_of_lt_of_le A101.lt (Nat.le_trans z137 lot16_111))
            have F141 : Arv Z T128.heap t16_111 kb16_111 .byte 1 [VI ((nar .char (own_f19_m4 p1)).toInt8.toInt32)] (VI 0) := (((o3_111.keep K115 nin0).keep K119 nin0).keep K128 (ninS (Ne.symm v140) nin0))
            obtain ⟨_, T142, L142, X142, hQ142, st142⟩ := own_cV X132 hx hZ119 ho119 (WW hw 52) (WW hw 53) (notFace_of_selects (args := #[]) (mvT hZ119 (WW hw 55))) (WW hw 55) (WW hw 54) (WW hw 2) (WW hw 56) (rm9_8 l Z a0 hw [] b101 b5_111 G1 t16_111 kb16_111 ((nar .char (own_f19_m4 p1)).toInt8.toInt32) T128.heap n0 (Nat.le_trans Z0 z133) o2_128 F134 O_G1 O135 P_G1 F138 F139 F141 ((own_link_23_m12_8_m8 p1).1 hc4)) e132 o0_128 hml (g := (mkF m 48 #[SI p1, SI p2, SI p3, SI p4, SR b101, SI 0] [VR b101])) pd8 (hb hby at_48) [] [] (W := 0)
            obtain ⟨rfl, N142q, e142⟩ := hQ142
            have N142 := Fr.app N132 N142q
            refine own_go st142 ?_
            show own_Fin p e below _ T142 (mkF m 51 #[SI p1, SI p2, SI p3, SI p4, SR b101, SI 0] [VI 0])
            refine own_go (fun _ k => XS.iload X142.here hx rfl (hb hby at_51) rfl (XS.icmpNo X142.here hx rfl (hb hby at_53) rfl (teq (by decide : (0 : Int32) = (0 : Int32))).2 (XS.iconst X142.here hx rfl (hb hby at_56) (XS.goto X142.here hx rfl (pc0 := 57) (pc' := 61) rfl (hb hby at_57) (by decide) (by decide) k)))) ?_
            show own_Fin p e below _ T142 (mkF m 61 #[SI p1, SI p2, SI p3, SI p4, SR b101, SI 0] [VI 1])
            have z143 : T119.heap.size ≤ T128.heap.size := K128.1
            obtain ⟨fs, hr, hrun, hended, hend⟩ := Jvm.Stand.leaveW X142 hS119 (by rw [e142]; exact (Nat.le_trans (Nat.le_refl _) z143)) (v := some (.int (1 : Int32))) (fun h => by rw [hret] at h; cases h)
            refine own_end (retN X142 hx (t := .boolean) hret (by simp) (hb hby at_61) hr) hrun hended ⟨_, _, rfl, ?_, hend.1, hend.2.1, hend.2.2.1, hend.2.2.2.mono (by decide) (by decide)⟩
            show Q0 n0 _ T142.heap _
            rw [e142]
            exact ⟨rfl, N142⟩
          ·
            refine own_go (fun _ k => XS.ifNo X132.here hx rfl (hb hby at_29) rfl ((if0 _ _).trans (feq hc4).1) (XS.iloadN X132.here hx rfl (hb hby at_32) rfl k)) ?_
            show own_Fin p e below _ T132 (mkF m 33 #[SI p1, SI p2, SI p3, SI p4, SR b101, SU] [VI p2])
            obtain ⟨_, T134, L134, X134, hQ134, st134⟩ := own_cS X132 hx hZ119 ho119 (WW hw 49) (WW hw 50) (WW hw 5) (WW hw 51) (rm8_m8 l Z a0 hw [] p2 T128.heap n0 (Nat.le_trans Z0 z133) (by rw [hc3]; decide : ¬ ((((p2.toUInt32 >>> ((24 : Int32) &&& 31).toUInt32).toInt32) &&& (3 : Int32)) < (1 : Int32))) (by rw [hc3]; decide : (((p2.toUInt32 >>> ((24 : Int32) &&& 31).toUInt32).toInt32) &&& (3 : Int32)) < (2 : Int32)) (by rw [hc3]; decide : (((p2.toUInt32 >>> ((24 : Int32) &&& 31).toUInt32).toInt32) &&& (3 : Int32)) < (3 : Int32))) e132 hml (g := (mkF m 33 #[SI p1, SI p2, SI p3, SI p4, SR b101, SU] [VI p2])) pd7 (hb hby at_33) [VI p2] [] (W := 0)
            obtain ⟨rfl, N134q, e134⟩ := hQ134
            have N134 := Fr.app N132 N134q
            refine own_go st134 ?_
            show own_Fin p e below _ T134 (mkF m 36 #[SI p1, SI p2, SI p3, SI p4, SR b101, SU] [VI (own_f8_m8 p2)])
            by_cases hc5 : (own_f8_m8 p2) = (0 : Int32)
            ·
              refine own_go (fun _ k => XS.ifYes X134.here hx rfl (pc0 := 36) (pc' := 43) rfl (hb hby at_36) rfl ((if0 _ _).trans (teq hc5).1) (by decide) (by decide) (XS.iconst X134.here hx rfl (hb hby at_43) (XS.istore X134.here hx rfl (hb hby at_44) rfl (l' := #[SI p1, SI p2, SI p3, SI p4, SR b101, SI 0]) rfl (XS.aload X134.here hx rfl (hb hby at_46) rfl rfl k)))) ?_
              show own_Fin p e below _ T134 (mkF m 48 #[SI p1, SI p2, SI p3, SI p4, SR b101, SI 0] [VR b101])
              have F135 : Exa Z T128.heap b5_111 cC3 := (((o0_111.keep K115).keep K119).keep K128)
              have O136 : Old Z n0 T128.heap := ((O118.keep K119 all0).keep K128 (allS u129 all0))
              have z138 : h101.size ≤ T108.heap.size := K108.1
              have v137 : b101 ≠ b5_111 := Nat.ne_of_lt (Nat.lt_of_lt_of_le A101.lt (Nat.le_trans z138 lob5_111))
              have F139 : Fld Z T128.heap b5_111 cC3 "coder" "B" (VI 0) := (((o1_111.keep K115 nin0).keep K119 nin0).keep K128 (ninS (Ne.symm v137) nin0))
              have F140 : Fld Z T128.heap b5_111 cC3 "value" "[B" (VR t16_111) := (((o2_111.keep K115 nin0).keep K119 nin0).keep K128 (ninS (Ne.symm v137) nin0))
              have v141 : b101 ≠ t16_111 := Nat.ne_of_lt (Nat.lt_of_lt_of_le A101.lt (Nat.le_trans z138 lot16_111))
              have F142 : Arv Z T128.heap t16_111 kb16_111 .byte 1 [VI ((nar .char (own_f19_m4 p1)).toInt8.toInt32)] (VI 0) := (((o3_111.keep K115 nin0).keep K119 nin0).keep K128 (ninS (Ne.symm v141) nin0))
              have F143 : Exa Z T128.heap b5_115 cC3 := ((o0_115.keep K119).keep K128)
              have z145 : h101.size ≤ T111.heap.size := Nat.le_trans z138 K111.1
              have v144 : b101 ≠ b5_115 := Nat.ne_of_lt (Nat.lt_of_lt_of_le A101.lt (Nat.le_trans z145 lob5_115))
              have F146 : Fld Z T128.heap b5_115 cC3 "coder" "B" (VI 0) := ((o1_115.keep K119 nin0).keep K128 (ninS (Ne.symm v144) nin0))
              have F147 : Fld Z T128.heap b5_115 cC3 "value" "[B" (VR t16_115) := ((o2_115.keep K119 nin0).keep K128 (ninS (Ne.symm v144) nin0))
              have v148 : b101 ≠ t16_115 := Nat.ne_of_lt (Nat.lt_of_lt_of_le A101.lt (Nat.le_trans z145 lot16_115))
              have F149 : Arv Z T128.heap t16_115 kb16_115 .byte 1 [VI ((nar .char (own_f19_m4 p2)).toInt8.toInt32)] (VI 0) := ((o3_115.keep K119 nin0).keep K128 (ninS (Ne.symm v148) nin0))
              obtain ⟨_, T150, L150, X150, hQ150, st150⟩ := own_cV X134 hx hZ119 ho119 (WW hw 52) (WW hw 53) (notFace_of_selects (args := #[]) (mvT hZ119 (WW hw 55))) (WW hw 55) (WW hw 54) (WW hw 2) (WW hw 56) (rm9_10 l Z a0 hw [] b101 b5_111 G1 t16_111 kb16_111 ((nar .char (own_f19_m4 p1)).toInt8.toInt32) b5_115 t16_115 kb16_115 ((nar .char (own_f19_m4 p2)).toInt8.toInt32) T128.heap n0 (Nat.le_trans Z0 z133) o2_128 F135 O_G1 O136 P_G1 F139 F140 F142 ((own_link_23_m12_8_m8 p1).2 hc4) o3_128 F143 F146 F147 F149 ((own_link_23_m12_8_m8 p2).1 hc5)) e134 o0_128 hml (g := (mkF m 48 #[SI p1, SI p2, SI p3, SI p4, SR b101, SI 0] [VR b101])) pd8 (hb hby at_48) [] [] (W := 0)
              obtain ⟨rfl, N150q, e150⟩ := hQ150
              have N150 := Fr.app N134 N150q
              refine own_go st150 ?_
              show own_Fin p e below _ T150 (mkF m 51 #[SI p1, SI p2, SI p3, SI p4, SR b101, SI 0] [VI 0])
              refine own_go (fun _ k => XS.iload X150.here hx rfl (hb hby at_51) rfl (XS.icmpNo X150.here hx rfl (hb hby at_53) rfl (teq (by decide : (0 : Int32) = (0 : Int32))).2 (XS.iconst X150.here hx rfl (hb hby at_56) (XS.goto X150.here hx rfl (pc0 := 57) (pc' := 61) rfl (hb hby at_57) (by decide) (by decide) k)))) ?_
              show own_Fin p e below _ T150 (mkF m 61 #[SI p1, SI p2, SI p3, SI p4, SR b101, SI 0] [VI 1])
              have z151 : T119.heap.size ≤ T128.heap.size := K128.1
              obtain ⟨fs, hr, hrun, hended, hend⟩ := Jvm.Stand.leaveW X150 hS119 (by rw [e150]; exact (Nat.le_trans (Nat.le_refl _) z151)) (v := some (.int (1 : Int32))) (fun h => by rw [hret] at h; cases h)
              refine own_end (retN X150 hx (t := .boolean) hret (by simp) (hb hby at_61) hr) hrun hended ⟨_, _, rfl, ?_, hend.1, hend.2.1, hend.2.2.1, hend.2.2.2.mono (by decide) (by decide)⟩
              show Q0 n0 _ T150.heap _
              rw [e150]
              exact ⟨rfl, N150⟩
            ·
              refine own_go (fun _ k => XS.ifNo X134.here hx rfl (hb hby at_36) rfl ((if0 _ _).trans (feq hc5).1) (XS.iconst X134.here hx rfl (hb hby at_39) (XS.goto X134.here hx rfl (pc0 := 40) (pc' := 44) rfl (hb hby at_40) (by decide) (by decide) (XS.istore X134.here hx rfl (hb hby at_44) rfl (l' := #[SI p1, SI p2, SI p3, SI p4, SR b101, SI 1]) rfl (XS.aload X134.here hx rfl (hb hby at_46) rfl rfl k))))) ?_
              show own_Fin p e below _ T134 (mkF m 48 #[SI p1, SI p2, SI p3, SI p4, SR b101, SI 1] [VR b101])
              have F135 : Exa Z T128.heap b5_111 cC3 := (((o0_111.keep K115).keep K119).keep K128)
              have O136 : Old Z n0 T128.heap := ((O118.keep K119 all0).keep K128 (allS u129 all0))
              have z138 : h101.size ≤ T108.heap.size := K108.1
              have v137 : b101 ≠ b5_111 := Nat.ne_of_lt (Nat.lt_of_lt_of_le A101.lt (Nat.le_trans z138 lob5_111))
              have F139 : Fld Z T128.heap b5_111 cC3 "coder" "B" (VI 0) := (((o1_111.keep K115 nin0).keep K119 nin0).keep K128 (ninS (Ne.symm v137) nin0))
              have F140 : Fld Z T128.heap b5_111 cC3 "value" "[B" (VR t16_111) := (((o2_111.keep K115 nin0).keep K119 nin0).keep K128 (ninS (Ne.symm v137) nin0))
              have v141 : b101 ≠ t16_111 := Nat.ne_of_lt (Nat.lt_of_lt_of_le A101.lt (Nat.le_trans z138 lot16_111))
              have F142 : Arv Z T128.heap t16_111 kb16_111 .byte 1 [VI ((nar .char (own_f19_m4 p1)).toInt8.toInt32)] (VI 0) := (((o3_111.keep K115 nin0).keep K119 nin0).keep K128 (ninS (Ne.symm v141) nin0))
              have F143 : Exa Z T128.heap b5_115 cC3 := ((o0_115.keep K119).keep K128)
              have z145 : h101.size ≤ T111.heap.size := Nat.le_trans z138 K111.1
              have v144 : b101 ≠ b5_115 := Nat.ne_of_lt (Nat.lt_of_lt_of_le A101.lt (Nat.le_trans z145 lob5_115))
              have F146 : Fld Z T128.heap b5_115 cC3 "coder" "B" (VI 0) := ((o1_115.keep K119 nin0).keep K128 (ninS (Ne.symm v144) nin0))
              have F147 : Fld Z T128.heap b5_115 cC3 "value" "[B" (VR t16_115) := ((o2_115.keep K119 nin0).keep K128 (ninS (Ne.symm v144) nin0))
              have v148 : b101 ≠ t16_115 := Nat.ne_of_lt (Nat.lt_of_lt_of_le A101.lt (Nat.le_trans z145 lot16_115))
              have F149 : Arv Z T128.heap t16_115 kb16_115 .byte 1 [VI ((nar .char (own_f19_m4 p2)).toInt8.toInt32)] (VI 0) := ((o3_115.keep K119 nin0).keep K128 (ninS (Ne.symm v148) nin0))
              obtain ⟨_, T150, L150, X150, hQ150, st150⟩ := own_cV X134 hx hZ119 ho119 (WW hw 52) (WW hw 53) (notFace_of_selects (args := #[]) (mvT hZ119 (WW hw 55))) (WW hw 55) (WW hw 54) (WW hw 2) (WW hw 56) (rm9_11 l Z a0 hw [] b101 b5_111 G1 t16_111 kb16_111 ((nar .char (own_f19_m4 p1)).toInt8.toInt32) b5_115 t16_115 kb16_115 ((nar .char (own_f19_m4 p2)).toInt8.toInt32) T128.heap n0 (Nat.le_trans Z0 z133) o2_128 F135 O_G1 O136 P_G1 F139 F140 F142 ((own_link_23_m12_8_m8 p1).2 hc4) o3_128 F143 F146 F147 F149 ((own_link_23_m12_8_m8 p2).2 hc5)) e134 o0_128 hml (g := (mkF m 48 #[SI p1, SI p2, SI p3, SI p4, SR b101, SI 1] [VR b101])) pd8 (hb hby at_48) [] [] (W := 0)
              obtain ⟨rfl, N150q, e150⟩ := hQ150
              have N150 := Fr.app N134 N150q
              refine own_go st150 ?_
              show own_Fin p e below _ T150 (mkF m 51 #[SI p1, SI p2, SI p3, SI p4, SR b101, SI 1] [VI 1])
              refine own_go (fun _ k => XS.iload X150.here hx rfl (hb hby at_51) rfl (XS.icmpNo X150.here hx rfl (hb hby at_53) rfl (teq (by decide : (1 : Int32) = (1 : Int32))).2 (XS.iconst X150.here hx rfl (hb hby at_56) (XS.goto X150.here hx rfl (pc0 := 57) (pc' := 61) rfl (hb hby at_57) (by decide) (by decide) k)))) ?_
              show own_Fin p e below _ T150 (mkF m 61 #[SI p1, SI p2, SI p3, SI p4, SR b101, SI 1] [VI 1])
              have z151 : T119.heap.size ≤ T128.heap.size := K128.1
              obtain ⟨fs, hr, hrun, hended, hend⟩ := Jvm.Stand.leaveW X150 hS119 (by rw [e150]; exact (Nat.le_trans (Nat.le_refl _) z151)) (v := some (.int (1 : Int32))) (fun h => by rw [hret] at h; cases h)
              refine own_end (retN X150 hx (t := .boolean) hret (by simp) (hb hby at_61) hr) hrun hended ⟨_, _, rfl, ?_, hend.1, hend.2.1, hend.2.2.1, hend.2.2.2.mono (by decide) (by decide)⟩
              show Q0 n0 _ T150.heap _
              rw [e150]
              exact ⟨rfl, N150⟩
        ·
          by_cases hc4 : (((p2.toUInt32 >>> ((24 : Int32) &&& 31).toUInt32).toInt32) &&& (3 : Int32)) = (2 : Int32)
          ·
            obtain ⟨_, T115, L115, X115, hQ115, st115⟩ := own_cS X111 hx hZ108 ho108 (WW hw 3) (WW hw 4) (WW hw 5) (WW hw 6) (rm1_4 l Z a0 hw [] p2 G1 T111.heap n0 (Nat.le_trans Z0 z116) hc2 hc3 hc4 O_G1 O114 P_G1) rfl hml (g := (mkF m 13 #[SI p1, SI p2, SI p3, SI p4, SU, SU] [VI p2, VR b5_111, VR r0_108, VR b101, VR b101])) pd4 (hb hby at_13) [VI p2] [VR b5_111, VR r0_108, VR b101, VR b101] (W := 4)
            obtain ⟨b6_115, t22_115, kb22_115, rfl, N115q, K115, lob6_115, lot22_115, neb6t22_115, o0_115, o1_115, o2_115, o3_115⟩ := hQ115
            have hR117 := hR113.trans (CHr.keep K115 all0 hR113.1)
            have N115 := Fr.app N111 N115q
            refine own_go st115 ?_
            show own_Fin p e below _ T115 (mkF m 16 #[SI p1, SI p2, SI p3, SI p4, SU, SU] [VR b6_115, VR b5_111, VR r0_108, VR b101, VR b101])
            refine own_go (fun _ k => XS.iloadN X115.here hx rfl (hb hby at_16) rfl k) ?_
            show own_Fin p e below _ T115 (mkF m 17 #[SI p1, SI p2, SI p3, SI p4, SU, SU] [VI p4, VR b6_115, VR b5_111, VR r0_108, VR b101, VR b101])
            have O118 : Old Z n0 T115.heap := (O114.keep K115 all0)
            have z120 : h0.size ≤ T115.heap.size := Nat.le_trans z116 K115.1
            have z121 : T108.heap.size ≤ T111.heap.size := K111.1
            have z122 : T108.heap.size ≤ T115.heap.size := Nat.le_trans z121 K115.1
            obtain ⟨_, T119, L119, X119, hQ119, hS119, hZ119, ho119, hC119, st119⟩ := own_cSH (vm0 := (s.setVm T108.vm).vm) X115 hx hZ108 ho108 hS108 (Nat.le_trans (Nat.le_refl _) z122) hEL hR117.1 (WW hw 3) (WW hw 4) (WW hw 5) (WW hw 6) (rm1_m3 l Z a0 hw [] p4 G1 T115.heap n0 (Nat.le_trans Z0 z120) O_G1 O118 P_G1) rfl hml (g := (mkF m 17 #[SI p1, SI p2, SI p3, SI p4, SU, SU] [VI p4, VR b6_115, VR b5_111, VR r0_108, VR b101, VR b101])) pd4 (hb hby at_17) [VI p4] [VR b6_115, VR b5_111, VR r0_108, VR b101, VR b101] (W := 5)
            have hR119 := hR117.trans hC119
            obtain ⟨r0_119, rfl, N119q, K119, o0_119⟩ := hQ119
            have N119 := Fr.app N115 N119q
            refine own_go st119 ?_
            show own_Fin p e below _ T119 (mkF m 20 #[SI p1, SI p2, SI p3, SI p4, SU, SU] [VR r0_119, VR b6_115, VR b5_111, VR r0_108, VR b101, VR b101])
            have F123 : Exa Z T119.heap b101 cC0 := ((((A101.keep K108).keep K111).keep K115).keep K119)
            have F124 : Fld Z T119.heap b101 cC0 "printed" cC1 (.null) := ((((F103.keep K108 nin0).keep K111 nin0).keep K115 nin0).keep K119 nin0)
            have F125 : Fld Z T119.heap b101 cC0 "article" cC1 (.null) := ((((F104.keep K108 nin0).keep K111 nin0).keep K115 nin0).keep K119 nin0)
            have F126 : Fld Z T119.heap b101 cC0 "clause" cC1 (.null) := ((((F105.keep K108 nin0).keep K111 nin0).keep K115 nin0).keep K119 nin0)
            have F127 : Fld Z T119.heap b101 cC0 "rest" cC1 (.null) := ((((F106.keep K108 nin0).keep K111 nin0).keep K115 nin0).keep K119 nin0)
            have u129 : n0 ≤ b101 := Nat.le_trans Z0 (Nat.le_of_eq g101.symm)
            have z130 : h0.size ≤ T119.heap.size := Nat.le_trans z120 K119.1
            obtain ⟨_, T128, L128, X128, hQ128, st128⟩ := own_cI X119 hx hZ119 ho119 (WW hw 32) (WW hw 33) (WW hw 2) (WW hw 34) (rm6_1 l Z a0 hw [] b101 r0_108 b5_111 b6_115 r0_119 T119.heap n0 (Nat.le_trans Z0 z130) F123 F124 u129 F125 F126 F127) rfl hml (g := (mkF m 20 #[SI p1, SI p2, SI p3, SI p4, SU, SU] [VR r0_119, VR b6_115, VR b5_111, VR r0_108, VR b101, VR b101])) pd6 (hb hby at_20) b101 [VR r0_108, VR b5_111, VR b6_115, VR r0_119] [VR b101] (W := 1)
            obtain ⟨rfl, N128q, K128, o0_128, o1_128, o2_128, o3_128, o4_128⟩ := hQ128
            have hR131 := hR119.trans (CHr.keep K128 (allS (Safe.exa (State.Warmed39.alike hZ119) F123 (by decide) (by decide)) all0) hR119.1)
            have N128 := Fr.app N119 N128q
            refine own_go st128 ?_
            show own_Fin p e below _ T128 (mkF m 23 #[SI p1, SI p2, SI p3, SI p4, SU, SU] [VR b101])
            refine own_go (fun _ k => XS.astore X128.here hx rfl (hb hby at_23) rfl rfl (l' := #[SI p1, SI p2, SI p3, SI p4, SR b101, SU]) rfl (XS.iloadN X128.here hx rfl (hb hby at_25) rfl k)) ?_
            show own_Fin p e below _ T128 (mkF m 26 #[SI p1, SI p2, SI p3, SI p4, SR b101, SU] [VI p1])
            have z133 : h0.size ≤ T128.heap.size := Nat.le_trans z130 K128.1
            obtain ⟨_, T132, L132, X132, hQ132, st132⟩ := own_cS X128 hx hZ119 ho119 (WW hw 49) (WW hw 50) (WW hw 5) (WW hw 51) (rm8_m8 l Z a0 hw [] p1 T128.heap n0 (Nat.le_trans Z0 z133) (by rw [hc1]; decide : ¬ ((((p1.toUInt32 >>> ((24 : Int32) &&& 31).toUInt32).toInt32) &&& (3 : Int32)) < (1 : Int32))) (by rw [hc1]; decide : (((p1.toUInt32 >>> ((24 : Int32) &&& 31).toUInt32).toInt32) &&& (3 : Int32)) < (2 : Int32)) (by rw [hc1]; decide : (((p1.toUInt32 >>> ((24 : Int32) &&& 31).toUInt32).toInt32) &&& (3 : Int32)) < (3 : Int32))) rfl hml (g := (mkF m 26 #[SI p1, SI p2, SI p3, SI p4, SR b101, SU] [VI p1])) pd7 (hb hby at_26) [VI p1] [] (W := 0)
            obtain ⟨rfl, N132q, e132⟩ := hQ132
            have N132 := Fr.app N128 N132q
            refine own_go st132 ?_
            show own_Fin p e below _ T132 (mkF m 29 #[SI p1, SI p2, SI p3, SI p4, SR b101, SU] [VI (own_f8_m8 p1)])
            by_cases hc5 : (own_f8_m8 p1) = (0 : Int32)
            ·
              refine own_go (fun _ k => XS.ifYes X132.here hx rfl (pc0 := 29) (pc' := 43) rfl (hb hby at_29) rfl ((if0 _ _).trans (teq hc5).1) (by decide) (by decide) (XS.iconst X132.here hx rfl (hb hby at_43) (XS.istore X132.here hx rfl (hb hby at_44) rfl (l' := #[SI p1, SI p2, SI p3, SI p4, SR b101, SI 0]) rfl (XS.aload X132.here hx rfl (hb hby at_46) rfl rfl k)))) ?_
              show own_Fin p e below _ T132 (mkF m 48 #[SI p1, SI p2, SI p3, SI p4, SR b101, SI 0] [VR b101])
              have F134 : Exa Z T128.heap b5_111 cC3 := (((o0_111.keep K115).keep K119).keep K128)
              have O135 : Old Z n0 T128.heap := ((O118.keep K119 all0).keep K128 (allS u129 all0))
              have z137 : h101.size ≤ T108.heap.size := K108.1
              have v136 : b101 ≠ b5_111 := Nat.ne_of_lt (Nat.lt_of_lt_of_le A101.lt (Nat.le_trans z137 lob5_111))
              have F138 : Fld Z T128.heap b5_111 cC3 "coder" "B" (VI 0) := (((o1_111.keep K115 nin0).keep K119 nin0).keep K128 (ninS (Ne.symm v136) nin0))
              have F139 : Fld Z T128.heap b5_111 cC3 "value" "[B" (VR t16_111) := (((o2_111.keep K115 nin0).keep K119 nin0).keep K128 (ninS (Ne.symm v136) nin0))
              have v140 : b101 ≠ t16_111 := Nat.ne_of_lt (Nat.lt_of_lt_of_le A101.lt (Nat.le_trans z137 lot16_111))
              have F141 : Arv Z T128.heap t16_111 kb16_111 .byte 1 [VI ((nar .char (own_f19_m4 p1)).toInt8.toInt32)] (VI 0) := (((o3_111.keep K115 nin0).keep K119 nin0).keep K128 (ninS (Ne.symm v140) nin0))
              obtain ⟨_, T142, L142, X142, hQ142, st142⟩ := own_cV X132 hx hZ119 ho119 (WW hw 52) (WW hw 53) (notFace_of_selects (args := #[]) (mvT hZ119 (WW hw 55))) (WW hw 55) (WW hw 54) (WW hw 2) (WW hw 56) (rm9_8 l Z a0 hw [] b101 b5_111 G1 t16_111 kb16_111 ((nar .char (own_f19_m4 p1)).toInt8.toInt32) T128.heap n0 (Nat.le_trans Z0 z133) o2_128 F134 O_G1 O135 P_G1 F138 F139 F141 ((own_link_23_m12_8_m8 p1).1 hc5)) e132 o0_128 hml (g := (mkF m 48 #[SI p1, SI p2, SI p3, SI p4, SR b101, SI 0] [VR b101])) pd8 (hb hby at_48) [] [] (W := 0)
              obtain ⟨rfl, N142q, e142⟩ := hQ142
              have N142 := Fr.app N132 N142q
              refine own_go st142 ?_
              show own_Fin p e below _ T142 (mkF m 51 #[SI p1, SI p2, SI p3, SI p4, SR b101, SI 0] [VI 0])
              refine own_go (fun _ k => XS.iload X142.here hx rfl (hb hby at_51) rfl (XS.icmpNo X142.here hx rfl (hb hby at_53) rfl (teq (by decide : (0 : Int32) = (0 : Int32))).2 (XS.iconst X142.here hx rfl (hb hby at_56) (XS.goto X142.here hx rfl (pc0 := 57) (pc' := 61) rfl (hb hby at_57) (by decide) (by decide) k)))) ?_
              show own_Fin p e below _ T142 (mkF m 61 #[SI p1, SI p2, SI p3, SI p4, SR b101, SI 0] [VI 1])
              have z143 : T119.heap.size ≤ T128.heap.size := K128.1
              obtain ⟨fs, hr, hrun, hended, hend⟩ := Jvm.Stand.leaveW X142 hS119 (by rw [e142]; exact (Nat.le_trans (Nat.le_refl _) z143)) (v := some (.int (1 : Int32))) (fun h => by rw [hret] at h; cases h)
              refine own_end (retN X142 hx (t := .boolean) hret (by simp) (hb hby at_61) hr) hrun hended ⟨_, _, rfl, ?_, hend.1, hend.2.1, hend.2.2.1, hend.2.2.2.mono (by decide) (by decide)⟩
              show Q0 n0 _ T142.heap _
              rw [e142]
              exact ⟨rfl, N142⟩
            ·
              refine own_go (fun _ k => XS.ifNo X132.here hx rfl (hb hby at_29) rfl ((if0 _ _).trans (feq hc5).1) (XS.iloadN X132.here hx rfl (hb hby at_32) rfl k)) ?_
              show own_Fin p e below _ T132 (mkF m 33 #[SI p1, SI p2, SI p3, SI p4, SR b101, SU] [VI p2])
              obtain ⟨_, T134, L134, X134, hQ134, st134⟩ := own_cS X132 hx hZ119 ho119 (WW hw 49) (WW hw 50) (WW hw 5) (WW hw 51) (rm8_m13 l Z a0 hw [] p2 T128.heap n0 (Nat.le_trans Z0 z133) (by rw [hc4]; decide : ¬ ((((p2.toUInt32 >>> ((24 : Int32) &&& 31).toUInt32).toInt32) &&& (3 : Int32)) < (1 : Int32))) (by rw [hc4]; decide : ¬ ((((p2.toUInt32 >>> ((24 : Int32) &&& 31).toUInt32).toInt32) &&& (3 : Int32)) < (2 : Int32))) (by rw [hc4]; decide : (((p2.toUInt32 >>> ((24 : Int32) &&& 31).toUInt32).toInt32) &&& (3 : Int32)) < (3 : Int32))) e132 hml (g := (mkF m 33 #[SI p1, SI p2, SI p3, SI p4, SR b101, SU] [VI p2])) pd7 (hb hby at_33) [VI p2] [] (W := 0)
              obtain ⟨rfl, N134q, e134⟩ := hQ134
              have N134 := Fr.app N132 N134q
              refine own_go st134 ?_
              show own_Fin p e below _ T134 (mkF m 36 #[SI p1, SI p2, SI p3, SI p4, SR b101, SU] [VI (own_f8_m13 p2)])
              by_cases hc6 : (own_f8_m13 p2) = (0 : Int32)
              ·
                refine own_go (fun _ k => XS.ifYes X134.here hx rfl (pc0 := 36) (pc' := 43) rfl (hb hby at_36) rfl ((if0 _ _).trans (teq hc6).1) (by decide) (by decide) (XS.iconst X134.here hx rfl (hb hby at_43) (XS.istore X134.here hx rfl (hb hby at_44) rfl (l' := #[SI p1, SI p2, SI p3, SI p4, SR b101, SI 0]) rfl (XS.aload X134.here hx rfl (hb hby at_46) rfl rfl k)))) ?_
                show own_Fin p e below _ T134 (mkF m 48 #[SI p1, SI p2, SI p3, SI p4, SR b101, SI 0] [VR b101])
                have F135 : Exa Z T128.heap b5_111 cC3 := (((o0_111.keep K115).keep K119).keep K128)
                have O136 : Old Z n0 T128.heap := ((O118.keep K119 all0).keep K128 (allS u129 all0))
                have z138 : h101.size ≤ T108.heap.size := K108.1
                have v137 : b101 ≠ b5_111 := Nat.ne_of_lt (Nat.lt_of_lt_of_le A101.lt (Nat.le_trans z138 lob5_111))
                have F139 : Fld Z T128.heap b5_111 cC3 "coder" "B" (VI 0) := (((o1_111.keep K115 nin0).keep K119 nin0).keep K128 (ninS (Ne.symm v137) nin0))
                have F140 : Fld Z T128.heap b5_111 cC3 "value" "[B" (VR t16_111) := (((o2_111.keep K115 nin0).keep K119 nin0).keep K128 (ninS (Ne.symm v137) nin0))
                have v141 : b101 ≠ t16_111 := Nat.ne_of_lt (Nat.lt_of_lt_of_le A101.lt (Nat.le_trans z138 lot16_111))
                have F142 : Arv Z T128.heap t16_111 kb16_111 .byte 1 [VI ((nar .char (own_f19_m4 p1)).toInt8.toInt32)] (VI 0) := (((o3_111.keep K115 nin0).keep K119 nin0).keep K128 (ninS (Ne.symm v141) nin0))
                have F143 : Exa Z T128.heap b6_115 cC3 := ((o0_115.keep K119).keep K128)
                have z145 : h101.size ≤ T111.heap.size := Nat.le_trans z138 K111.1
                have v144 : b101 ≠ b6_115 := Nat.ne_of_lt (Nat.lt_of_lt_of_le A101.lt (Nat.le_trans z145 lob6_115))
                have F146 : Fld Z T128.heap b6_115 cC3 "coder" "B" (VI 0) := ((o1_115.keep K119 nin0).keep K128 (ninS (Ne.symm v144) nin0))
                have F147 : Fld Z T128.heap b6_115 cC3 "value" "[B" (VR t22_115) := ((o2_115.keep K119 nin0).keep K128 (ninS (Ne.symm v144) nin0))
                have v148 : b101 ≠ t22_115 := Nat.ne_of_lt (Nat.lt_of_lt_of_le A101.lt (Nat.le_trans z145 lot22_115))
                have F149 : Arv Z T128.heap t22_115 kb22_115 .byte 2 [VI ((nar .char (own_f19_m4 p2)).toInt8.toInt32), VI ((nar .char (own_f19_m5 p2)).toInt8.toInt32)] (VI 0) := ((o3_115.keep K119 nin0).keep K128 (ninS (Ne.symm v148) nin0))
                obtain ⟨_, T150, L150, X150, hQ150, st150⟩ := own_cV X134 hx hZ119 ho119 (WW hw 52) (WW hw 53) (notFace_of_selects (args := #[]) (mvT hZ119 (WW hw 55))) (WW hw 55) (WW hw 54) (WW hw 2) (WW hw 56) (rm9_12 l Z a0 hw [] b101 b5_111 G1 t16_111 kb16_111 ((nar .char (own_f19_m4 p1)).toInt8.toInt32) b6_115 t22_115 kb22_115 ((nar .char (own_f19_m4 p2)).toInt8.toInt32) ((nar .char (own_f19_m5 p2)).toInt8.toInt32) T128.heap n0 (Nat.le_trans Z0 z133) o2_128 F135 O_G1 O136 P_G1 F139 F140 F142 ((own_link_23_m12_8_m8 p1).2 hc5) o3_128 F143 F146 F147 F149 ((own_link_23_m17_8_m13 p2).1 hc6)) e134 o0_128 hml (g := (mkF m 48 #[SI p1, SI p2, SI p3, SI p4, SR b101, SI 0] [VR b101])) pd8 (hb hby at_48) [] [] (W := 0)
                obtain ⟨rfl, N150q, e150⟩ := hQ150
                have N150 := Fr.app N134 N150q
                refine own_go st150 ?_
                show own_Fin p e below _ T150 (mkF m 51 #[SI p1, SI p2, SI p3, SI p4, SR b101, SI 0] [VI 0])
                refine own_go (fun _ k => XS.iload X150.here hx rfl (hb hby at_51) rfl (XS.icmpNo X150.here hx rfl (hb hby at_53) rfl (teq (by decide : (0 : Int32) = (0 : Int32))).2 (XS.iconst X150.here hx rfl (hb hby at_56) (XS.goto X150.here hx rfl (pc0 := 57) (pc' := 61) rfl (hb hby at_57) (by decide) (by decide) k)))) ?_
                show own_Fin p e below _ T150 (mkF m 61 #[SI p1, SI p2, SI p3, SI p4, SR b101, SI 0] [VI 1])
                have z151 : T119.heap.size ≤ T128.heap.size := K128.1
                obtain ⟨fs, hr, hrun, hended, hend⟩ := Jvm.Stand.leaveW X150 hS119 (by rw [e150]; exact (Nat.le_trans (Nat.le_refl _) z151)) (v := some (.int (1 : Int32))) (fun h => by rw [hret] at h; cases h)
                refine own_end (retN X150 hx (t := .boolean) hret (by simp) (hb hby at_61) hr) hrun hended ⟨_, _, rfl, ?_, hend.1, hend.2.1, hend.2.2.1, hend.2.2.2.mono (by decide) (by decide)⟩
                show Q0 n0 _ T150.heap _
                rw [e150]
                exact ⟨rfl, N150⟩
              ·
                refine own_go (fun _ k => XS.ifNo X134.here hx rfl (hb hby at_36) rfl ((if0 _ _).trans (feq hc6).1) (XS.iconst X134.here hx rfl (hb hby at_39) (XS.goto X134.here hx rfl (pc0 := 40) (pc' := 44) rfl (hb hby at_40) (by decide) (by decide) (XS.istore X134.here hx rfl (hb hby at_44) rfl (l' := #[SI p1, SI p2, SI p3, SI p4, SR b101, SI 1]) rfl (XS.aload X134.here hx rfl (hb hby at_46) rfl rfl k))))) ?_
                show own_Fin p e below _ T134 (mkF m 48 #[SI p1, SI p2, SI p3, SI p4, SR b101, SI 1] [VR b101])
                have F135 : Exa Z T128.heap b5_111 cC3 := (((o0_111.keep K115).keep K119).keep K128)
                have O136 : Old Z n0 T128.heap := ((O118.keep K119 all0).keep K128 (allS u129 all0))
                have z138 : h101.size ≤ T108.heap.size := K108.1
                have v137 : b101 ≠ b5_111 := Nat.ne_of_lt (Nat.lt_of_lt_of_le A101.lt (Nat.le_trans z138 lob5_111))
                have F139 : Fld Z T128.heap b5_111 cC3 "coder" "B" (VI 0) := (((o1_111.keep K115 nin0).keep K119 nin0).keep K128 (ninS (Ne.symm v137) nin0))
                have F140 : Fld Z T128.heap b5_111 cC3 "value" "[B" (VR t16_111) := (((o2_111.keep K115 nin0).keep K119 nin0).keep K128 (ninS (Ne.symm v137) nin0))
                have v141 : b101 ≠ t16_111 := Nat.ne_of_lt (Nat.lt_of_lt_of_le A101.lt (Nat.le_trans z138 lot16_111))
                have F142 : Arv Z T128.heap t16_111 kb16_111 .byte 1 [VI ((nar .char (own_f19_m4 p1)).toInt8.toInt32)] (VI 0) := (((o3_111.keep K115 nin0).keep K119 nin0).keep K128 (ninS (Ne.symm v141) nin0))
                have F143 : Exa Z T128.heap b6_115 cC3 := ((o0_115.keep K119).keep K128)
                have z145 : h101.size ≤ T111.heap.size := Nat.le_trans z138 K111.1
                have v144 : b101 ≠ b6_115 := Nat.ne_of_lt (Nat.lt_of_lt_of_le A101.lt (Nat.le_trans z145 lob6_115))
                have F146 : Fld Z T128.heap b6_115 cC3 "coder" "B" (VI 0) := ((o1_115.keep K119 nin0).keep K128 (ninS (Ne.symm v144) nin0))
                have F147 : Fld Z T128.heap b6_115 cC3 "value" "[B" (VR t22_115) := ((o2_115.keep K119 nin0).keep K128 (ninS (Ne.symm v144) nin0))
                have v148 : b101 ≠ t22_115 := Nat.ne_of_lt (Nat.lt_of_lt_of_le A101.lt (Nat.le_trans z145 lot22_115))
                have F149 : Arv Z T128.heap t22_115 kb22_115 .byte 2 [VI ((nar .char (own_f19_m4 p2)).toInt8.toInt32), VI ((nar .char (own_f19_m5 p2)).toInt8.toInt32)] (VI 0) := ((o3_115.keep K119 nin0).keep K128 (ninS (Ne.symm v148) nin0))
                obtain ⟨_, T150, L150, X150, hQ150, st150⟩ := own_cV X134 hx hZ119 ho119 (WW hw 52) (WW hw 53) (notFace_of_selects (args := #[]) (mvT hZ119 (WW hw 55))) (WW hw 55) (WW hw 54) (WW hw 2) (WW hw 56) (rm9_13 l Z a0 hw [] b101 b5_111 G1 t16_111 kb16_111 ((nar .char (own_f19_m4 p1)).toInt8.toInt32) b6_115 t22_115 kb22_115 ((nar .char (own_f19_m4 p2)).toInt8.toInt32) ((nar .char (own_f19_m5 p2)).toInt8.toInt32) T128.heap n0 (Nat.le_trans Z0 z133) o2_128 F135 O_G1 O136 P_G1 F139 F140 F142 ((own_link_23_m12_8_m8 p1).2 hc5) o3_128 F143 F146 F147 F149 ((own_link_23_m17_8_m13 p2).2 hc6)) e134 o0_128 hml (g := (mkF m 48 #[SI p1, SI p2, SI p3, SI p4, SR b101, SI 1] [VR b101])) pd8 (hb hby at_48) [] [] (W := 0)
                obtain ⟨rfl, N150q, e150⟩ := hQ150
                have N150 := Fr.app N134 N150q
                refine own_go st150 ?_
                show own_Fin p e below _ T150 (mkF m 51 #[SI p1, SI p2, SI p3, SI p4, SR b101, SI 1] [VI 1])
                refine own_go (fun _ k => XS.iload X150.here hx rfl (hb hby at_51) rfl (XS.icmpNo X150.here hx rfl (hb hby at_53) rfl (teq (by decide : (1 : Int32) = (1 : Int32))).2 (XS.iconst X150.here hx rfl (hb hby at_56) (XS.goto X150.here hx rfl (pc0 := 57) (pc' := 61) rfl (hb hby at_57) (by decide) (by decide) k)))) ?_
                show own_Fin p e below _ T150 (mkF m 61 #[SI p1, SI p2, SI p3, SI p4, SR b101, SI 1] [VI 1])
                have z151 : T119.heap.size ≤ T128.heap.size := K128.1
                obtain ⟨fs, hr, hrun, hended, hend⟩ := Jvm.Stand.leaveW X150 hS119 (by rw [e150]; exact (Nat.le_trans (Nat.le_refl _) z151)) (v := some (.int (1 : Int32))) (fun h => by rw [hret] at h; cases h)
                refine own_end (retN X150 hx (t := .boolean) hret (by simp) (hb hby at_61) hr) hrun hended ⟨_, _, rfl, ?_, hend.1, hend.2.1, hend.2.2.1, hend.2.2.2.mono (by decide) (by decide)⟩
                show Q0 n0 _ T150.heap _
                rw [e150]
                exact ⟨rfl, N150⟩
          ·
            obtain ⟨_, T115, L115, X115, hQ115, st115⟩ := own_cS X111 hx hZ108 ho108 (WW hw 3) (WW hw 4) (WW hw 5) (WW hw 6) (rm1_5 l Z a0 hw [] p2 G1 T111.heap n0 (Nat.le_trans Z0 z116) hc2 hc3 hc4 O_G1 O114 P_G1) rfl hml (g := (mkF m 13 #[SI p1, SI p2, SI p3, SI p4, SU, SU] [VI p2, VR b5_111, VR r0_108, VR b101, VR b101])) pd4 (hb hby at_13) [VI p2] [VR b5_111, VR r0_108, VR b101, VR b101] (W := 4)
            obtain ⟨b6_115, t27_115, kb27_115, rfl, N115q, K115, lob6_115, lot27_115, neb6t27_115, o0_115, o1_115, o2_115, o3_115⟩ := hQ115
            have hR117 := hR113.trans (CHr.keep K115 all0 hR113.1)
            have N115 := Fr.app N111 N115q
            refine own_go st115 ?_
            show own_Fin p e below _ T115 (mkF m 16 #[SI p1, SI p2, SI p3, SI p4, SU, SU] [VR b6_115, VR b5_111, VR r0_108, VR b101, VR b101])
            refine own_go (fun _ k => XS.iloadN X115.here hx rfl (hb hby at_16) rfl k) ?_
            show own_Fin p e below _ T115 (mkF m 17 #[SI p1, SI p2, SI p3, SI p4, SU, SU] [VI p4, VR b6_115, VR b5_111, VR r0_108, VR b101, VR b101])
            have O118 : Old Z n0 T115.heap := (O114.keep K115 all0)
            have z120 : h0.size ≤ T115.heap.size := Nat.le_trans z116 K115.1
            have z121 : T108.heap.size ≤ T111.heap.size := K111.1
            have z122 : T108.heap.size ≤ T115.heap.size := Nat.le_trans z121 K115.1
            obtain ⟨_, T119, L119, X119, hQ119, hS119, hZ119, ho119, hC119, st119⟩ := own_cSH (vm0 := (s.setVm T108.vm).vm) X115 hx hZ108 ho108 hS108 (Nat.le_trans (Nat.le_refl _) z122) hEL hR117.1 (WW hw 3) (WW hw 4) (WW hw 5) (WW hw 6) (rm1_m3 l Z a0 hw [] p4 G1 T115.heap n0 (Nat.le_trans Z0 z120) O_G1 O118 P_G1) rfl hml (g := (mkF m 17 #[SI p1, SI p2, SI p3, SI p4, SU, SU] [VI p4, VR b6_115, VR b5_111, VR r0_108, VR b101, VR b101])) pd4 (hb hby at_17) [VI p4] [VR b6_115, VR b5_111, VR r0_108, VR b101, VR b101] (W := 5)
            have hR119 := hR117.trans hC119
            obtain ⟨r0_119, rfl, N119q, K119, o0_119⟩ := hQ119
            have N119 := Fr.app N115 N119q
            refine own_go st119 ?_
            show own_Fin p e below _ T119 (mkF m 20 #[SI p1, SI p2, SI p3, SI p4, SU, SU] [VR r0_119, VR b6_115, VR b5_111, VR r0_108, VR b101, VR b101])
            have F123 : Exa Z T119.heap b101 cC0 := ((((A101.keep K108).keep K111).keep K115).keep K119)
            have F124 : Fld Z T119.heap b101 cC0 "printed" cC1 (.null) := ((((F103.keep K108 nin0).keep K111 nin0).keep K115 nin0).keep K119 nin0)
            have F125 : Fld Z T119.heap b101 cC0 "article" cC1 (.null) := ((((F104.keep K108 nin0).keep K111 nin0).keep K115 nin0).keep K119 nin0)
            have F126 : Fld Z T119.heap b101 cC0 "clause" cC1 (.null) := ((((F105.keep K108 nin0).keep K111 nin0).keep K115 nin0).keep K119 nin0)
            have F127 : Fld Z T119.heap b101 cC0 "rest" cC1 (.null) := ((((F106.keep K108 nin0).keep K111 nin0).keep K115 nin0).keep K119 nin0)
            have u129 : n0 ≤ b101 := Nat.le_trans Z0 (Nat.le_of_eq g101.symm)
            have z130 : h0.size ≤ T119.heap.size := Nat.le_trans z120 K119.1
            obtain ⟨_, T128, L128, X128, hQ128, st128⟩ := own_cI X119 hx hZ119 ho119 (WW hw 32) (WW hw 33) (WW hw 2) (WW hw 34) (rm6_1 l Z a0 hw [] b101 r0_108 b5_111 b6_115 r0_119 T119.heap n0 (Nat.le_trans Z0 z130) F123 F124 u129 F125 F126 F127) rfl hml (g := (mkF m 20 #[SI p1, SI p2, SI p3, SI p4, SU, SU] [VR r0_119, VR b6_115, VR b5_111, VR r0_108, VR b101, VR b101])) pd6 (hb hby at_20) b101 [VR r0_108, VR b5_111, VR b6_115, VR r0_119] [VR b101] (W := 1)
            obtain ⟨rfl, N128q, K128, o0_128, o1_128, o2_128, o3_128, o4_128⟩ := hQ128
            have hR131 := hR119.trans (CHr.keep K128 (allS (Safe.exa (State.Warmed39.alike hZ119) F123 (by decide) (by decide)) all0) hR119.1)
            have N128 := Fr.app N119 N128q
            refine own_go st128 ?_
            show own_Fin p e below _ T128 (mkF m 23 #[SI p1, SI p2, SI p3, SI p4, SU, SU] [VR b101])
            refine own_go (fun _ k => XS.astore X128.here hx rfl (hb hby at_23) rfl rfl (l' := #[SI p1, SI p2, SI p3, SI p4, SR b101, SU]) rfl (XS.iloadN X128.here hx rfl (hb hby at_25) rfl k)) ?_
            show own_Fin p e below _ T128 (mkF m 26 #[SI p1, SI p2, SI p3, SI p4, SR b101, SU] [VI p1])
            have z133 : h0.size ≤ T128.heap.size := Nat.le_trans z130 K128.1
            obtain ⟨_, T132, L132, X132, hQ132, st132⟩ := own_cS X128 hx hZ119 ho119 (WW hw 49) (WW hw 50) (WW hw 5) (WW hw 51) (rm8_m8 l Z a0 hw [] p1 T128.heap n0 (Nat.le_trans Z0 z133) (by rw [hc1]; decide : ¬ ((((p1.toUInt32 >>> ((24 : Int32) &&& 31).toUInt32).toInt32) &&& (3 : Int32)) < (1 : Int32))) (by rw [hc1]; decide : (((p1.toUInt32 >>> ((24 : Int32) &&& 31).toUInt32).toInt32) &&& (3 : Int32)) < (2 : Int32)) (by rw [hc1]; decide : (((p1.toUInt32 >>> ((24 : Int32) &&& 31).toUInt32).toInt32) &&& (3 : Int32)) < (3 : Int32))) rfl hml (g := (mkF m 26 #[SI p1, SI p2, SI p3, SI p4, SR b101, SU] [VI p1])) pd7 (hb hby at_26) [VI p1] [] (W := 0)
            obtain ⟨rfl, N132q, e132⟩ := hQ132
            have N132 := Fr.app N128 N132q
            refine own_go st132 ?_
            show own_Fin p e below _ T132 (mkF m 29 #[SI p1, SI p2, SI p3, SI p4, SR b101, SU] [VI (own_f8_m8 p1)])
            by_cases hc5 : (own_f8_m8 p1) = (0 : Int32)
            ·
              refine own_go (fun _ k => XS.ifYes X132.here hx rfl (pc0 := 29) (pc' := 43) rfl (hb hby at_29) rfl ((if0 _ _).trans (teq hc5).1) (by decide) (by decide) (XS.iconst X132.here hx rfl (hb hby at_43) (XS.istore X132.here hx rfl (hb hby at_44) rfl (l' := #[SI p1, SI p2, SI p3, SI p4, SR b101, SI 0]) rfl (XS.aload X132.here hx rfl (hb hby at_46) rfl rfl k)))) ?_
              show own_Fin p e below _ T132 (mkF m 48 #[SI p1, SI p2, SI p3, SI p4, SR b101, SI 0] [VR b101])
              have F134 : Exa Z T128.heap b5_111 cC3 := (((o0_111.keep K115).keep K119).keep K128)
              have O135 : Old Z n0 T128.heap := ((O118.keep K119 all0).keep K128 (allS u129 all0))
              have z137 : h101.size ≤ T108.heap.size := K108.1
              have v136 : b101 ≠ b5_111 := Nat.ne_of_lt (Nat.lt_of_lt_of_le A101.lt (Nat.le_trans z137 lob5_111))
              have F138 : Fld Z T128.heap b5_111 cC3 "coder" "B" (VI 0) := (((o1_111.keep K115 nin0).keep K119 nin0).keep K128 (ninS (Ne.symm v136) nin0))
              have F139 : Fld Z T128.heap b5_111 cC3 "value" "[B" (VR t16_111) := (((o2_111.keep K115 nin0).keep K119 nin0).keep K128 (ninS (Ne.symm v136) nin0))
              have v140 : b101 ≠ t16_111 := Nat.ne_of_lt (Nat.lt_of_lt_of_le A101.lt (Nat.le_trans z137 lot16_111))
              have F141 : Arv Z T128.heap t16_111 kb16_111 .byte 1 [VI ((nar .char (own_f19_m4 p1)).toInt8.toInt32)] (VI 0) := (((o3_111.keep K115 nin0).keep K119 nin0).keep K128 (ninS (Ne.symm v140) nin0))
              obtain ⟨_, T142, L142, X142, hQ142, st142⟩ := own_cV X132 hx hZ119 ho119 (WW hw 52) (WW hw 53) (notFace_of_selects (args := #[]) (mvT hZ119 (WW hw 55))) (WW hw 55) (WW hw 54) (WW hw 2) (WW hw 56) (rm9_8 l Z a0 hw [] b101 b5_111 G1 t16_111 kb16_111 ((nar .char (own_f19_m4 p1)).toInt8.toInt32) T128.heap n0 (Nat.le_trans Z0 z133) o2_128 F134 O_G1 O135 P_G1 F138 F139 F141 ((own_link_23_m12_8_m8 p1).1 hc5)) e132 o0_128 hml (g := (mkF m 48 #[SI p1, SI p2, SI p3, SI p4, SR b101, SI 0] [VR b101])) pd8 (hb hby at_48) [] [] (W := 0)
              obtain ⟨rfl, N142q, e142⟩ := hQ142
              have N142 := Fr.app N132 N142q
              refine own_go st142 ?_
              show own_Fin p e below _ T142 (mkF m 51 #[SI p1, SI p2, SI p3, SI p4, SR b101, SI 0] [VI 0])
              refine own_go (fun _ k => XS.iload X142.here hx rfl (hb hby at_51) rfl (XS.icmpNo X142.here hx rfl (hb hby at_53) rfl (teq (by decide : (0 : Int32) = (0 : Int32))).2 (XS.iconst X142.here hx rfl (hb hby at_56) (XS.goto X142.here hx rfl (pc0 := 57) (pc' := 61) rfl (hb hby at_57) (by decide) (by decide) k)))) ?_
              show own_Fin p e below _ T142 (mkF m 61 #[SI p1, SI p2, SI p3, SI p4, SR b101, SI 0] [VI 1])
              have z143 : T119.heap.size ≤ T128.heap.size := K128.1
              obtain ⟨fs, hr, hrun, hended, hend⟩ := Jvm.Stand.leaveW X142 hS119 (by rw [e142]; exact (Nat.le_trans (Nat.le_refl _) z143)) (v := some (.int (1 : Int32))) (fun h => by rw [hret] at h; cases h)
              refine own_end (retN X142 hx (t := .boolean) hret (by simp) (hb hby at_61) hr) hrun hended ⟨_, _, rfl, ?_, hend.1, hend.2.1, hend.2.2.1, hend.2.2.2.mono (by decide) (by decide)⟩
              show Q0 n0 _ T142.heap _
              rw [e142]
              exact ⟨rfl, N142⟩
            ·
              refine own_go (fun _ k => XS.ifNo X132.here hx rfl (hb hby at_29) rfl ((if0 _ _).trans (feq hc5).1) (XS.iloadN X132.here hx rfl (hb hby at_32) rfl k)) ?_
              show own_Fin p e below _ T132 (mkF m 33 #[SI p1, SI p2, SI p3, SI p4, SR b101, SU] [VI p2])
              obtain ⟨_, T134, L134, X134, hQ134, st134⟩ := own_cS X132 hx hZ119 ho119 (WW hw 49) (WW hw 50) (WW hw 5) (WW hw 51) (rm8_m18 l Z a0 hw [] p2 T128.heap n0 (Nat.le_trans Z0 z133) (by rw [(own_and3 ((p2.toUInt32 >>> ((24 : Int32) &&& 31).toUInt32).toInt32) hc2 hc3 hc4)]; decide : ¬ ((((p2.toUInt32 >>> ((24 : Int32) &&& 31).toUInt32).toInt32) &&& (3 : Int32)) < (1 : Int32))) (by rw [(own_and3 ((p2.toUInt32 >>> ((24 : Int32) &&& 31).toUInt32).toInt32) hc2 hc3 hc4)]; decide : ¬ ((((p2.toUInt32 >>> ((24 : Int32) &&& 31).toUInt32).toInt32) &&& (3 : Int32)) < (2 : Int32))) (by rw [(own_and3 ((p2.toUInt32 >>> ((24 : Int32) &&& 31).toUInt32).toInt32) hc2 hc3 hc4)]; decide : ¬ ((((p2.toUInt32 >>> ((24 : Int32) &&& 31).toUInt32).toInt32) &&& (3 : Int32)) < (3 : Int32)))) e132 hml (g := (mkF m 33 #[SI p1, SI p2, SI p3, SI p4, SR b101, SU] [VI p2])) pd7 (hb hby at_33) [VI p2] [] (W := 0)
              obtain ⟨rfl, N134q, e134⟩ := hQ134
              have N134 := Fr.app N132 N134q
              refine own_go st134 ?_
              show own_Fin p e below _ T134 (mkF m 36 #[SI p1, SI p2, SI p3, SI p4, SR b101, SU] [VI (own_f8_m18 p2)])
              by_cases hc6 : (own_f8_m18 p2) = (0 : Int32)
              ·
                refine own_go (fun _ k => XS.ifYes X134.here hx rfl (pc0 := 36) (pc' := 43) rfl (hb hby at_36) rfl ((if0 _ _).trans (teq hc6).1) (by decide) (by decide) (XS.iconst X134.here hx rfl (hb hby at_43) (XS.istore X134.here hx rfl (hb hby at_44) rfl (l' := #[SI p1, SI p2, SI p3, SI p4, SR b101, SI 0]) rfl (XS.aload X134.here hx rfl (hb hby at_46) rfl rfl k)))) ?_
                show own_Fin p e below _ T134 (mkF m 48 #[SI p1, SI p2, SI p3, SI p4, SR b101, SI 0] [VR b101])
                have F135 : Exa Z T128.heap b5_111 cC3 := (((o0_111.keep K115).keep K119).keep K128)
                have O136 : Old Z n0 T128.heap := ((O118.keep K119 all0).keep K128 (allS u129 all0))
                have z138 : h101.size ≤ T108.heap.size := K108.1
                have v137 : b101 ≠ b5_111 := Nat.ne_of_lt (Nat.lt_of_lt_of_le A101.lt (Nat.le_trans z138 lob5_111))
                have F139 : Fld Z T128.heap b5_111 cC3 "coder" "B" (VI 0) := (((o1_111.keep K115 nin0).keep K119 nin0).keep K128 (ninS (Ne.symm v137) nin0))
                have F140 : Fld Z T128.heap b5_111 cC3 "value" "[B" (VR t16_111) := (((o2_111.keep K115 nin0).keep K119 nin0).keep K128 (ninS (Ne.symm v137) nin0))
                have v141 : b101 ≠ t16_111 := Nat.ne_of_lt (Nat.lt_of_lt_of_le A101.lt (Nat.le_trans z138 lot16_111))
                have F142 : Arv Z T128.heap t16_111 kb16_111 .byte 1 [VI ((nar .char (own_f19_m4 p1)).toInt8.toInt32)] (VI 0) := (((o3_111.keep K115 nin0).keep K119 nin0).keep K128 (ninS (Ne.symm v141) nin0))
                have F143 : Exa Z T128.heap b6_115 cC3 := ((o0_115.keep K119).keep K128)
                have z145 : h101.size ≤ T111.heap.size := Nat.le_trans z138 K111.1
                have v144 : b101 ≠ b6_115 := Nat.ne_of_lt (Nat.lt_of_lt_of_le A101.lt (Nat.le_trans z145 lob6_115))
                have F146 : Fld Z T128.heap b6_115 cC3 "coder" "B" (VI 0) := ((o1_115.keep K119 nin0).keep K128 (ninS (Ne.symm v144) nin0))
                have F147 : Fld Z T128.heap b6_115 cC3 "value" "[B" (VR t27_115) := ((o2_115.keep K119 nin0).keep K128 (ninS (Ne.symm v144) nin0))
                have v148 : b101 ≠ t27_115 := Nat.ne_of_lt (Nat.lt_of_lt_of_le A101.lt (Nat.le_trans z145 lot27_115))
                have F149 : Arv Z T128.heap t27_115 kb27_115 .byte 3 [VI ((nar .char (own_f19_m4 p2)).toInt8.toInt32), VI ((nar .char (own_f19_m5 p2)).toInt8.toInt32), VI ((nar .char (own_f19_m6 p2)).toInt8.toInt32)] (VI 0) := ((o3_115.keep K119 nin0).keep K128 (ninS (Ne.symm v148) nin0))
                obtain ⟨_, T150, L150, X150, hQ150, st150⟩ := own_cV X134 hx hZ119 ho119 (WW hw 52) (WW hw 53) (notFace_of_selects (args := #[]) (mvT hZ119 (WW hw 55))) (WW hw 55) (WW hw 54) (WW hw 2) (WW hw 56) (rm9_14 l Z a0 hw [] b101 b5_111 G1 t16_111 kb16_111 ((nar .char (own_f19_m4 p1)).toInt8.toInt32) b6_115 t27_115 kb27_115 ((nar .char (own_f19_m4 p2)).toInt8.toInt32) ((nar .char (own_f19_m5 p2)).toInt8.toInt32) ((nar .char (own_f19_m6 p2)).toInt8.toInt32) T128.heap n0 (Nat.le_trans Z0 z133) o2_128 F135 O_G1 O136 P_G1 F139 F140 F142 ((own_link_23_m12_8_m8 p1).2 hc5) o3_128 F143 F146 F147 F149 ((own_link_23_m22_8_m18 p2).1 hc6)) e134 o0_128 hml (g := (mkF m 48 #[SI p1, SI p2, SI p3, SI p4, SR b101, SI 0] [VR b101])) pd8 (hb hby at_48) [] [] (W := 0)
                obtain ⟨rfl, N150q, e150⟩ := hQ150
                have N150 := Fr.app N134 N150q
                refine own_go st150 ?_
                show own_Fin p e below _ T150 (mkF m 51 #[SI p1, SI p2, SI p3, SI p4, SR b101, SI 0] [VI 0])
                refine own_go (fun _ k => XS.iload X150.here hx rfl (hb hby at_51) rfl (XS.icmpNo X150.here hx rfl (hb hby at_53) rfl (teq (by decide : (0 : Int32) = (0 : Int32))).2 (XS.iconst X150.here hx rfl (hb hby at_56) (XS.goto X150.here hx rfl (pc0 := 57) (pc' := 61) rfl (hb hby at_57) (by decide) (by decide) k)))) ?_
                show own_Fin p e below _ T150 (mkF m 61 #[SI p1, SI p2, SI p3, SI p4, SR b101, SI 0] [VI 1])
                have z151 : T119.heap.size ≤ T128.heap.size := K128.1
                obtain ⟨fs, hr, hrun, hended, hend⟩ := Jvm.Stand.leaveW X150 hS119 (by rw [e150]; exact (Nat.le_trans (Nat.le_refl _) z151)) (v := some (.int (1 : Int32))) (fun h => by rw [hret] at h; cases h)
                refine own_end (retN X150 hx (t := .boolean) hret (by simp) (hb hby at_61) hr) hrun hended ⟨_, _, rfl, ?_, hend.1, hend.2.1, hend.2.2.1, hend.2.2.2.mono (by decide) (by decide)⟩
                show Q0 n0 _ T150.heap _
                rw [e150]
                exact ⟨rfl, N150⟩
              ·
                refine own_go (fun _ k => XS.ifNo X134.here hx rfl (hb hby at_36) rfl ((if0 _ _).trans (feq hc6).1) (XS.iconst X134.here hx rfl (hb hby at_39) (XS.goto X134.here hx rfl (pc0 := 40) (pc' := 44) rfl (hb hby at_40) (by decide) (by decide) (XS.istore X134.here hx rfl (hb hby at_44) rfl (l' := #[SI p1, SI p2, SI p3, SI p4, SR b101, SI 1]) rfl (XS.aload X134.here hx rfl (hb hby at_46) rfl rfl k))))) ?_
                show own_Fin p e below _ T134 (mkF m 48 #[SI p1, SI p2, SI p3, SI p4, SR b101, SI 1] [VR b101])
                have F135 : Exa Z T128.heap b5_111 cC3 := (((o0_111.keep K115).keep K119).keep K128)
                have O136 : Old Z n0 T128.heap := ((O118.keep K119 all0).keep K128 (allS u129 all0))
                have z138 : h101.size ≤ T108.heap.size := K108.1
                have v137 : b101 ≠ b5_111 := Nat.ne_of_lt (Nat.lt_of_lt_of_le A101.lt (Nat.le_trans z138 lob5_111))
                have F139 : Fld Z T128.heap b5_111 cC3 "coder" "B" (VI 0) := (((o1_111.keep K115 nin0).keep K119 nin0).keep K128 (ninS (Ne.symm v137) nin0))
                have F140 : Fld Z T128.heap b5_111 cC3 "value" "[B" (VR t16_111) := (((o2_111.keep K115 nin0).keep K119 nin0).keep K128 (ninS (Ne.symm v137) nin0))
                have v141 : b101 ≠ t16_111 := Nat.ne_of_lt (Nat.lt_of_lt_of_le A101.lt (Nat.le_trans z138 lot16_111))
                have F142 : Arv Z T128.heap t16_111 kb16_111 .byte 1 [VI ((nar .char (own_f19_m4 p1)).toInt8.toInt32)] (VI 0) := (((o3_111.keep K115 nin0).keep K119 nin0).keep K128 (ninS (Ne.symm v141) nin0))
                have F143 : Exa Z T128.heap b6_115 cC3 := ((o0_115.keep K119).keep K128)
                have z145 : h101.size ≤ T111.heap.size := Nat.le_trans z138 K111.1
                have v144 : b101 ≠ b6_115 := Nat.ne_of_lt (Nat.lt_of_lt_of_le A101.lt (Nat.le_trans z145 lob6_115))
                have F146 : Fld Z T128.heap b6_115 cC3 "coder" "B" (VI 0) := ((o1_115.keep K119 nin0).keep K128 (ninS (Ne.symm v144) nin0))
                have F147 : Fld Z T128.heap b6_115 cC3 "value" "[B" (VR t27_115) := ((o2_115.keep K119 nin0).keep K128 (ninS (Ne.symm v144) nin0))
                have v148 : b101 ≠ t27_115 := Nat.ne_of_lt (Nat.lt_of_lt_of_le A101.lt (Nat.le_trans z145 lot27_115))
                have F149 : Arv Z T128.heap t27_115 kb27_115 .byte 3 [VI ((nar .char (own_f19_m4 p2)).toInt8.toInt32), VI ((nar .char (own_f19_m5 p2)).toInt8.toInt32), VI ((nar .char (own_f19_m6 p2)).toInt8.toInt32)] (VI 0) := ((o3_115.keep K119 nin0).keep K128 (ninS (Ne.symm v148) nin0))
                obtain ⟨_, T150, L150, X150, hQ150, st150⟩ := own_cV X134 hx hZ119 ho119 (WW hw 52) (WW hw 53) (notFace_of_selects (args := #[]) (mvT hZ119 (WW hw 55))) (WW hw 55) (WW hw 54) (WW hw 2) (WW hw 56) (rm9_15 l Z a0 hw [] b101 b5_111 G1 t16_111 kb16_111 ((nar .char (own_f19_m4 p1)).toInt8.toInt32) b6_115 t27_115 kb27_115 ((nar .char (own_f19_m4 p2)).toInt8.toInt32) ((nar .char (own_f19_m5 p2)).toInt8.toInt32) ((nar .char (own_f19_m6 p2)).toInt8.toInt32) T128.heap n0 (Nat.le_trans Z0 z133) o2_128 F135 O_G1 O136 P_G1 F139 F140 F142 ((own_link_23_m12_8_m8 p1).2 hc5) o3_128 F143 F146 F147 F149 ((own_link_23_m22_8_m18 p2).2 hc6)) e134 o0_128 hml (g := (mkF m 48 #[SI p1, SI p2, SI p3, SI p4, SR b101, SI 1] [VR b101])) pd8 (hb hby at_48) [] [] (W := 0)
                obtain ⟨rfl, N150q, e150⟩ := hQ150
                have N150 := Fr.app N134 N150q
                refine own_go st150 ?_
                show own_Fin p e below _ T150 (mkF m 51 #[SI p1, SI p2, SI p3, SI p4, SR b101, SI 1] [VI 1])
                refine own_go (fun _ k => XS.iload X150.here hx rfl (hb hby at_51) rfl (XS.icmpNo X150.here hx rfl (hb hby at_53) rfl (teq (by decide : (1 : Int32) = (1 : Int32))).2 (XS.iconst X150.here hx rfl (hb hby at_56) (XS.goto X150.here hx rfl (pc0 := 57) (pc' := 61) rfl (hb hby at_57) (by decide) (by decide) k)))) ?_
                show own_Fin p e below _ T150 (mkF m 61 #[SI p1, SI p2, SI p3, SI p4, SR b101, SI 1] [VI 1])
                have z151 : T119.heap.size ≤ T128.heap.size := K128.1
                obtain ⟨fs, hr, hrun, hended, hend⟩ := Jvm.Stand.leaveW X150 hS119 (by rw [e150]; exact (Nat.le_trans (Nat.le_refl _) z151)) (v := some (.int (1 : Int32))) (fun h => by rw [hret] at h; cases h)
                refine own_end (retN X150 hx (t := .boolean) hret (by simp) (hb hby at_61) hr) hrun hended ⟨_, _, rfl, ?_, hend.1, hend.2.1, hend.2.2.1, hend.2.2.2.mono (by decide) (by decide)⟩
                show Q0 n0 _ T150.heap _
                rw [e150]
                exact ⟨rfl, N150⟩
    ·
      by_cases hc2 : (((p1.toUInt32 >>> ((24 : Int32) &&& 31).toUInt32).toInt32) &&& (3 : Int32)) = (2 : Int32)
      ·
        obtain ⟨_, T111, L111, X111, hQ111, st111⟩ := own_cS X108 hx hZ108 ho108 (WW hw 3) (WW hw 4) (WW hw 5) (WW hw 6) (rm1_4 l Z a0 hw [] p1 G1 T108.heap n0 (Nat.le_trans Z0 z112) hc0 hc1 hc2 O_G1 O110 P_G1) rfl hml (g := (mkF m 9 #[SI p1, SI p2, SI p3, SI p4, SU, SU] [VI p1, VR r0_108, VR b101, VR b101])) pd4 (hb hby at_9) [VI p1] [VR r0_108, VR b101, VR b101] (W := 3)
        obtain ⟨b6_111, t22_111, kb22_111, rfl, N111q, K111, lob6_111, lot22_111, neb6t22_111, o0_111, o1_111, o2_111, o3_111⟩ := hQ111
        have hR113 := hR108.trans (CHr.keep K111 all0 hR108.1)
        have N111 := Fr.app N108 N111q
        refine own_go st111 ?_
        show own_Fin p e below _ T111 (mkF m 12 #[SI p1, SI p2, SI p3, SI p4, SU, SU] [VR b6_111, VR r0_108, VR b101, VR b101])
        refine own_go (fun _ k => XS.iloadN X111.here hx rfl (hb hby at_12) rfl k) ?_
        show own_Fin p e below _ T111 (mkF m 13 #[SI p1, SI p2, SI p3, SI p4, SU, SU] [VI p2, VR b6_111, VR r0_108, VR b101, VR b101])
        by_cases hc3 : (((p2.toUInt32 >>> ((24 : Int32) &&& 31).toUInt32).toInt32) &&& (3 : Int32)) = (0 : Int32)
        ·
          have z115 : h0.size ≤ T111.heap.size := Nat.le_trans z112 K111.1
          have z116 : T108.heap.size ≤ T111.heap.size := K111.1
          obtain ⟨_, T114, L114, X114, hQ114, hS114, hZ114, ho114, hC114, st114⟩ := own_cSH (vm0 := (s.setVm T108.vm).vm) X111 hx hZ108 ho108 hS108 (Nat.le_trans (Nat.le_refl _) z116) hEL hR113.1 (WW hw 3) (WW hw 4) (WW hw 5) (WW hw 6) (rm1_2 l Z a0 hw [] p2 T111.heap n0 (Nat.le_trans Z0 z115) hc3) rfl hml (g := (mkF m 13 #[SI p1, SI p2, SI p3, SI p4, SU, SU] [VI p2, VR b6_111, VR r0_108, VR b101, VR b101])) pd4 (hb hby at_13) [VI p2] [VR b6_111, VR r0_108, VR b101, VR b101] (W := 4)
          have hR114 := hR113.trans hC114
          obtain ⟨b4_114, b10_9_13_114, kb10_9_13_114, rfl, N114q, K114, lob4_114, o0_114, o1_114, o2_114, o3_114⟩ := hQ114
          have N114 := Fr.app N111 N114q
          refine own_go st114 ?_
          show own_Fin p e below _ T114 (mkF m 16 #[SI p1, SI p2, SI p3, SI p4, SU, SU] [VR b4_114, VR b6_111, VR r0_108, VR b101, VR b101])
          refine own_go (fun _ k => XS.iloadN X114.here hx rfl (hb hby at_16) rfl k) ?_
          show own_Fin p e below _ T114 (mkF m 17 #[SI p1, SI p2, SI p3, SI p4, SU, SU] [VI p4, VR b4_114, VR b6_111, VR r0_108, VR b101, VR b101])
          have O117 : Old Z n0 T114.heap := ((O110.keep K111 all0).keep K114 all0)
          have z119 : h0.size ≤ T114.heap.size := Nat.le_trans z115 K114.1
          obtain ⟨_, T118, L118, X118, hQ118, hS118, hZ118, ho118, hC118, st118⟩ := own_cSH (vm0 := (s.setVm T114.vm).vm) X114 hx hZ114 ho114 hS114 (Nat.le_refl _) hEL hR114.1 (WW hw 3) (WW hw 4) (WW hw 5) (WW hw 6) (rm1_m3 l Z a0 hw [] p4 G1 T114.heap n0 (Nat.le_trans Z0 z119) O_G1 O117 P_G1) rfl hml (g := (mkF m 17 #[SI p1, SI p2, SI p3, SI p4, SU, SU] [VI p4, VR b4_114, VR b6_111, VR r0_108, VR b101, VR b101])) pd4 (hb hby at_17) [VI p4] [VR b4_114, VR b6_111, VR r0_108, VR b101, VR b101] (W := 5)
          have hR118 := hR114.trans hC118
          obtain ⟨r0_118, rfl, N118q, K118, o0_118⟩ := hQ118
          have N118 := Fr.app N114 N118q
          refine own_go st118 ?_
          show own_Fin p e below _ T118 (mkF m 20 #[SI p1, SI p2, SI p3, SI p4, SU, SU] [VR r0_118, VR b4_114, VR b6_111, VR r0_108, VR b101, VR b101])
          have F120 : Exa Z T118.heap b101 cC0 := ((((A101.keep K108).keep K111).keep K114).keep K118)
          have F121 : Fld Z T118.heap b101 cC0 "printed" cC1 (.null) := ((((F103.keep K108 nin0).keep K111 nin0).keep K114 nin0).keep K118 nin0)
          have F122 : Fld Z T118.heap b101 cC0 "article" cC1 (.null) := ((((F104.keep K108 nin0).keep K111 nin0).keep K114 nin0).keep K118 nin0)
          have F123 : Fld Z T118.heap b101 cC0 "clause" cC1 (.null) := ((((F105.keep K108 nin0).keep K111 nin0).keep K114 nin0).keep K118 nin0)
          have F124 : Fld Z T118.heap b101 cC0 "rest" cC1 (.null) := ((((F106.keep K108 nin0).keep K111 nin0).keep K114 nin0).keep K118 nin0)
          have u126 : n0 ≤ b101 := Nat.le_trans Z0 (Nat.le_of_eq g101.symm)
          have z127 : h0.size ≤ T118.heap.size := Nat.le_trans z119 K118.1
          obtain ⟨_, T125, L125, X125, hQ125, st125⟩ := own_cI X118 hx hZ118 ho118 (WW hw 32) (WW hw 33) (WW hw 2) (WW hw 34) (rm6_1 l Z a0 hw [] b101 r0_108 b6_111 b4_114 r0_118 T118.heap n0 (Nat.le_trans Z0 z127) F120 F121 u126 F122 F123 F124) rfl hml (g := (mkF m 20 #[SI p1, SI p2, SI p3, SI p4, SU, SU] [VR r0_118, VR b4_114, VR b6_111, VR r0_108, VR b101, VR b101])) pd6 (hb hby at_20) b101 [VR r0_108, VR b6_111, VR b4_114, VR r0_118] [VR b101] (W := 1)
          obtain ⟨rfl, N125q, K125, o0_125, o1_125, o2_125, o3_125, o4_125⟩ := hQ125
          have hR128 := hR118.trans (CHr.keep K125 (allS (Safe.exa (State.Warmed39.alike hZ118) F120 (by decide) (by decide)) all0) hR118.1)
          have N125 := Fr.app N118 N125q
          refine own_go st125 ?_
          show own_Fin p e below _ T125 (mkF m 23 #[SI p1, SI p2, SI p3, SI p4, SU, SU] [VR b101])
          refine own_go (fun _ k => XS.astore X125.here hx rfl (hb hby at_23) rfl rfl (l' := #[SI p1, SI p2, SI p3, SI p4, SR b101, SU]) rfl (XS.iloadN X125.here hx rfl (hb hby at_25) rfl k)) ?_
          show own_Fin p e below _ T125 (mkF m 26 #[SI p1, SI p2, SI p3, SI p4, SR b101, SU] [VI p1])
          have z130 : h0.size ≤ T125.heap.size := Nat.le_trans z127 K125.1
          obtain ⟨_, T129, L129, X129, hQ129, st129⟩ := own_cS X125 hx hZ118 ho118 (WW hw 49) (WW hw 50) (WW hw 5) (WW hw 51) (rm8_m13 l Z a0 hw [] p1 T125.heap n0 (Nat.le_trans Z0 z130) (by rw [hc2]; decide : ¬ ((((p1.toUInt32 >>> ((24 : Int32) &&& 31).toUInt32).toInt32) &&& (3 : Int32)) < (1 : Int32))) (by rw [hc2]; decide : ¬ ((((p1.toUInt32 >>> ((24 : Int32) &&& 31).toUInt32).toInt32) &&& (3 : Int32)) < (2 : Int32))) (by rw [hc2]; decide : (((p1.toUInt32 >>> ((24 : Int32) &&& 31).toUInt32).toInt32) &&& (3 : Int32)) < (3 : Int32))) rfl hml (g := (mkF m 26 #[SI p1, SI p2, SI p3, SI p4, SR b101, SU] [VI p1])) pd7 (hb hby at_26) [VI p1] [] (W := 0)
          obtain ⟨rfl, N129q, e129⟩ := hQ129
          have N129 := Fr.app N125 N129q
          refine own_go st129 ?_
          show own_Fin p e below _ T129 (mkF m 29 #[SI p1, SI p2, SI p3, SI p4, SR b101, SU] [VI (own_f8_m13 p1)])
          by_cases hc4 : (own_f8_m13 p1) = (0 : Int32)
          ·
            refine own_go (fun _ k => XS.ifYes X129.here hx rfl (pc0 := 29) (pc' := 43) rfl (hb hby at_29) rfl ((if0 _ _).trans (teq hc4).1) (by decide) (by decide) (XS.iconst X129.here hx rfl (hb hby at_43) (XS.istore X129.here hx rfl (hb hby at_44) rfl (l' := #[SI p1, SI p2, SI p3, SI p4, SR b101, SI 0]) rfl (XS.aload X129.here hx rfl (hb hby at_46) rfl rfl k)))) ?_
            show own_Fin p e below _ T129 (mkF m 48 #[SI p1, SI p2, SI p3, SI p4, SR b101, SI 0] [VR b101])
            have F131 : Exa Z T125.heap b6_111 cC3 := (((o0_111.keep K114).keep K118).keep K125)
            have O132 : Old Z n0 T125.heap := ((O117.keep K118 all0).keep K125 (allS u126 all0))
            have z134 : h101.size ≤ T108.heap.size := K108.1
            have v133 : b101 ≠ b6_111 := Nat.ne_of_lt (Nat.lt_of_lt_of_le A101.lt (Nat.le_trans z134 lob6_111))
            have F135 : Fld Z T125.heap b6_111 cC3 "coder" "B" (VI 0) := (((o1_111.keep K114 nin0).keep K118 nin0).keep K125 (ninS (Ne.symm v133) nin0))
            have F136 : Fld Z T125.heap b6_111 cC3 "value" "[B" (VR t22_111) := (((o2_111.keep K114 nin0).keep K118 nin0).keep K125 (ninS (Ne.symm v133) nin0))
            have v137 : b101 ≠ t22_111 := Nat.ne_of_lt (Nat.lt_of_lt_of_le A101.lt (Nat.le_trans z134 lot22_111))
            have F138 : Arv Z T125.heap t22_111 kb22_111 .byte 2 [VI ((nar .char (own_f19_m4 p1)).toInt8.toInt32), VI ((nar .char (own_f19_m5 p1)).toInt8.toInt32)] (VI 0) := (((o3_111.keep K114 nin0).keep K118 nin0).keep K125 (ninS (Ne.symm v137) nin0))
            obtain ⟨_, T139, L139, X139, hQ139, st139⟩ := own_cV X129 hx hZ118 ho118 (WW hw 52) (WW hw 53) (notFace_of_selects (args := #[]) (mvT hZ118 (WW hw 55))) (WW hw 55) (WW hw 54) (WW hw 2) (WW hw 56) (rm9_16 l Z a0 hw [] b101 b6_111 G1 t22_111 kb22_111 ((nar .char (own_f19_m4 p1)).toInt8.toInt32) ((nar .char (own_f19_m5 p1)).toInt8.toInt32) T125.heap n0 (Nat.le_trans Z0 z130) o2_125 F131 O_G1 O132 P_G1 F135 F136 F138 ((own_link_23_m17_8_m13 p1).1 hc4)) e129 o0_125 hml (g := (mkF m 48 #[SI p1, SI p2, SI p3, SI p4, SR b101, SI 0] [VR b101])) pd8 (hb hby at_48) [] [] (W := 0)
            obtain ⟨rfl, N139q, e139⟩ := hQ139
            have N139 := Fr.app N129 N139q
            refine own_go st139 ?_
            show own_Fin p e below _ T139 (mkF m 51 #[SI p1, SI p2, SI p3, SI p4, SR b101, SI 0] [VI 0])
            refine own_go (fun _ k => XS.iload X139.here hx rfl (hb hby at_51) rfl (XS.icmpNo X139.here hx rfl (hb hby at_53) rfl (teq (by decide : (0 : Int32) = (0 : Int32))).2 (XS.iconst X139.here hx rfl (hb hby at_56) (XS.goto X139.here hx rfl (pc0 := 57) (pc' := 61) rfl (hb hby at_57) (by decide) (by decide) k)))) ?_
            show own_Fin p e below _ T139 (mkF m 61 #[SI p1, SI p2, SI p3, SI p4, SR b101, SI 0] [VI 1])
            have z140 : T118.heap.size ≤ T125.heap.size := K125.1
            obtain ⟨fs, hr, hrun, hended, hend⟩ := Jvm.Stand.leaveW X139 hS118 (by rw [e139]; exact (Nat.le_trans (Nat.le_refl _) z140)) (v := some (.int (1 : Int32))) (fun h => by rw [hret] at h; cases h)
            refine own_end (retN X139 hx (t := .boolean) hret (by simp) (hb hby at_61) hr) hrun hended ⟨_, _, rfl, ?_, hend.1, hend.2.1, hend.2.2.1, hend.2.2.2.mono (by decide) (by decide)⟩
            show Q0 n0 _ T139.heap _
            rw [e139]
            exact ⟨rfl, N139⟩
          ·
            refine own_go (fun _ k => XS.ifNo X129.here hx rfl (hb hby at_29) rfl ((if0 _ _).trans (feq hc4).1) (XS.iloadN X129.here hx rfl (hb hby at_32) rfl k)) ?_
            show own_Fin p e below _ T129 (mkF m 33 #[SI p1, SI p2, SI p3, SI p4, SR b101, SU] [VI p2])
            obtain ⟨_, T131, L131, X131, hQ131, st131⟩ := own_cS X129 hx hZ118 ho118 (WW hw 49) (WW hw 50) (WW hw 5) (WW hw 51) (rm8_m7 l Z a0 hw [] p2 T125.heap n0 (Nat.le_trans Z0 z130) (by rw [hc3]; decide : (((p2.toUInt32 >>> ((24 : Int32) &&& 31).toUInt32).toInt32) &&& (3 : Int32)) < (1 : Int32)) (by rw [hc3]; decide : (((p2.toUInt32 >>> ((24 : Int32) &&& 31).toUInt32).toInt32) &&& (3 : Int32)) < (2 : Int32)) (by rw [hc3]; decide : (((p2.toUInt32 >>> ((24 : Int32) &&& 31).toUInt32).toInt32) &&& (3 : Int32)) < (3 : Int32))) e129 hml (g := (mkF m 33 #[SI p1, SI p2, SI p3, SI p4, SR b101, SU] [VI p2])) pd7 (hb hby at_33) [VI p2] [] (W := 0)
            obtain ⟨rfl, N131q, e131⟩ := hQ131
            have N131 := Fr.app N129 N131q
            refine own_go st131 ?_
            show own_Fin p e below _ T131 (mkF m 36 #[SI p1, SI p2, SI p3, SI p4, SR b101, SU] [VI 1])
            refine own_go (fun _ k => XS.ifNo X131.here hx rfl (hb hby at_36) rfl ((if0 _ _).trans (feq (by decide : ¬ ((1 : Int32) = (0 : Int32)))).1) (XS.iconst X131.here hx rfl (hb hby at_39) (XS.goto X131.here hx rfl (pc0 := 40) (pc' := 44) rfl (hb hby at_40) (by decide) (by decide) (XS.istore X131.here hx rfl (hb hby at_44) rfl (l' := #[SI p1, SI p2, SI p3, SI p4, SR b101, SI 1]) rfl (XS.aload X131.here hx rfl (hb hby at_46) rfl rfl k))))) ?_
            show own_Fin p e below _ T131 (mkF m 48 #[SI p1, SI p2, SI p3, SI p4, SR b101, SI 1] [VR b101])
            have F132 : Exa Z T125.heap b6_111 cC3 := (((o0_111.keep K114).keep K118).keep K125)
            have O133 : Old Z n0 T125.heap := ((O117.keep K118 all0).keep K125 (allS u126 all0))
            have z135 : h101.size ≤ T108.heap.size := K108.1
            have v134 : b101 ≠ b6_111 := Nat.ne_of_lt (Nat.lt_of_lt_of_le A101.lt (Nat.le_trans z135 lob6_111))
            have F136 : Fld Z T125.heap b6_111 cC3 "coder" "B" (VI 0) := (((o1_111.keep K114 nin0).keep K118 nin0).keep K125 (ninS (Ne.symm v134) nin0))
            have F137 : Fld Z T125.heap b6_111 cC3 "value" "[B" (VR t22_111) := (((o2_111.keep K114 nin0).keep K118 nin0).keep K125 (ninS (Ne.symm v134) nin0))
            have v138 : b101 ≠ t22_111 := Nat.ne_of_lt (Nat.lt_of_lt_of_le A101.lt (Nat.le_trans z135 lot22_111))
            have F139 : Arv Z T125.heap t22_111 kb22_111 .byte 2 [VI ((nar .char (own_f19_m4 p1)).toInt8.toInt32), VI ((nar .char (own_f19_m5 p1)).toInt8.toInt32)] (VI 0) := (((o3_111.keep K114 nin0).keep K118 nin0).keep K125 (ninS (Ne.symm v138) nin0))
            have F140 : Exa Z T125.heap b4_114 cC3 := ((o0_114.keep K118).keep K125)
            have z142 : h101.size ≤ T111.heap.size := Nat.le_trans z135 K111.1
            have v141 : b101 ≠ b4_114 := Nat.ne_of_lt (Nat.lt_of_lt_of_le A101.lt (Nat.le_trans z142 lob4_114))
            have F143 : Fld Z T125.heap b4_114 cC3 "coder" "B" (VI 0) := ((o2_114.keep K118 nin0).keep K125 (ninS (Ne.symm v141) nin0))
            have F144 : Fld Z T125.heap b4_114 cC3 "value" "[B" (VR b10_9_13_114) := ((o1_114.keep K118 nin0).keep K125 (ninS (Ne.symm v141) nin0))
            have v145 : b101 ≠ b10_9_13_114 := Exa.neArv (((A101.keep K108).keep K111).keep K114) o3_114 (WW hw 1)
            have F146 : Arv Z T125.heap b10_9_13_114 kb10_9_13_114 .byte 0 [] (VI 0) := ((o3_114.keep K118 nin0).keep K125 (ninS (Ne.symm v145) nin0))
            obtain ⟨_, T147, L147, X147, hQ147, st147⟩ := own_cV X131 hx hZ118 ho118 (WW hw 52) (WW hw 53) (notFace_of_selects (args := #[]) (mvT hZ118 (WW hw 55))) (WW hw 55) (WW hw 54) (WW hw 2) (WW hw 56) (rm9_17 l Z a0 hw [] b101 b6_111 G1 t22_111 kb22_111 ((nar .char (own_f19_m4 p1)).toInt8.toInt32) ((nar .char (own_f19_m5 p1)).toInt8.toInt32) b4_114 b10_9_13_114 kb10_9_13_114 T125.heap n0 (Nat.le_trans Z0 z130) o2_125 F132 O_G1 O133 P_G1 F136 F137 F139 ((own_link_23_m17_8_m13 p1).2 hc4) o3_125 F140 F143 F144 F146) e131 o0_125 hml (g := (mkF m 48 #[SI p1, SI p2, SI p3, SI p4, SR b101, SI 1] [VR b101])) pd8 (hb hby at_48) [] [] (W := 0)
            obtain ⟨rfl, N147q, e147⟩ := hQ147
            have N147 := Fr.app N131 N147q
            refine own_go st147 ?_
            show own_Fin p e below _ T147 (mkF m 51 #[SI p1, SI p2, SI p3, SI p4, SR b101, SI 1] [VI 1])
            refine own_go (fun _ k => XS.iload X147.here hx rfl (hb hby at_51) rfl (XS.icmpNo X147.here hx rfl (hb hby at_53) rfl (teq (by decide : (1 : Int32) = (1 : Int32))).2 (XS.iconst X147.here hx rfl (hb hby at_56) (XS.goto X147.here hx rfl (pc0 := 57) (pc' := 61) rfl (hb hby at_57) (by decide) (by decide) k)))) ?_
            show own_Fin p e below _ T147 (mkF m 61 #[SI p1, SI p2, SI p3, SI p4, SR b101, SI 1] [VI 1])
            have z148 : T118.heap.size ≤ T125.heap.size := K125.1
            obtain ⟨fs, hr, hrun, hended, hend⟩ := Jvm.Stand.leaveW X147 hS118 (by rw [e147]; exact (Nat.le_trans (Nat.le_refl _) z148)) (v := some (.int (1 : Int32))) (fun h => by rw [hret] at h; cases h)
            refine own_end (retN X147 hx (t := .boolean) hret (by simp) (hb hby at_61) hr) hrun hended ⟨_, _, rfl, ?_, hend.1, hend.2.1, hend.2.2.1, hend.2.2.2.mono (by decide) (by decide)⟩
            show Q0 n0 _ T147.heap _
            rw [e147]
            exact ⟨rfl, N147⟩
        ·
          have O114 : Old Z n0 T111.heap := (O110.keep K111 all0)
          have z116 : h0.size ≤ T111.heap.size := Nat.le_trans z112 K111.1
          by_cases hc4 : (((p2.toUInt32 >>> ((24 : Int32) &&& 31).toUInt32).toInt32) &&& (3 : Int32)) = (1 : Int32)
          ·
            obtain ⟨_, T115, L115, X115, hQ115, st115⟩ := own_cS X111 hx hZ108 ho108 (WW hw 3) (WW hw 4) (WW hw 5) (WW hw 6) (rm1_3 l Z a0 hw [] p2 G1 T111.heap n0 (Nat.le_trans Z0 z116) hc3 hc4 O_G1 O114 P_G1) rfl hml (g := (mkF m 13 #[SI p1, SI p2, SI p3, SI p4, SU, SU] [VI p2, VR b6_111, VR r0_108, VR b101, VR b101])) pd4 (hb hby at_13) [VI p2] [VR b6_111, VR r0_108, VR b101, VR b101] (W := 4)
            obtain ⟨b5_115, t16_115, kb16_115, rfl, N115q, K115, lob5_115, lot16_115, neb5t16_115, o0_115, o1_115, o2_115, o3_115⟩ := hQ115
            have hR117 := hR113.trans (CHr.keep K115 all0 hR113.1)
            have N115 := Fr.app N111 N115q
            refine own_go st115 ?_
            show own_Fin p e below _ T115 (mkF m 16 #[SI p1, SI p2, SI p3, SI p4, SU, SU] [VR b5_115, VR b6_111, VR r0_108, VR b101, VR b101])
            refine own_go (fun _ k => XS.iloadN X115.here hx rfl (hb hby at_16) rfl k) ?_
            show own_Fin p e below _ T115 (mkF m 17 #[SI p1, SI p2, SI p3, SI p4, SU, SU] [VI p4, VR b5_115, VR b6_111, VR r0_108, VR b101, VR b101])
            have O118 : Old Z n0 T115.heap := (O114.keep K115 all0)
            have z120 : h0.size ≤ T115.heap.size := Nat.le_trans z116 K115.1
            have z121 : T108.heap.size ≤ T111.heap.size := K111.1
            have z122 : T108.heap.size ≤ T115.heap.size := Nat.le_trans z121 K115.1
            obtain ⟨_, T119, L119, X119, hQ119, hS119, hZ119, ho119, hC119, st119⟩ := own_cSH (vm0 := (s.setVm T108.vm).vm) X115 hx hZ108 ho108 hS108 (Nat.le_trans (Nat.le_refl _) z122) hEL hR117.1 (WW hw 3) (WW hw 4) (WW hw 5) (WW hw 6) (rm1_m3 l Z a0 hw [] p4 G1 T115.heap n0 (Nat.le_trans Z0 z120) O_G1 O118 P_G1) rfl hml (g := (mkF m 17 #[SI p1, SI p2, SI p3, SI p4, SU, SU] [VI p4, VR b5_115, VR b6_111, VR r0_108, VR b101, VR b101])) pd4 (hb hby at_17) [VI p4] [VR b5_115, VR b6_111, VR r0_108, VR b101, VR b101] (W := 5)
            have hR119 := hR117.trans hC119
            obtain ⟨r0_119, rfl, N119q, K119, o0_119⟩ := hQ119
            have N119 := Fr.app N115 N119q
            refine own_go st119 ?_
            show own_Fin p e below _ T119 (mkF m 20 #[SI p1, SI p2, SI p3, SI p4, SU, SU] [VR r0_119, VR b5_115, VR b6_111, VR r0_108, VR b101, VR b101])
            have F123 : Exa Z T119.heap b101 cC0 := ((((A101.keep K108).keep K111).keep K115).keep K119)
            have F124 : Fld Z T119.heap b101 cC0 "printed" cC1 (.null) := ((((F103.keep K108 nin0).keep K111 nin0).keep K115 nin0).keep K119 nin0)
            have F125 : Fld Z T119.heap b101 cC0 "article" cC1 (.null) := ((((F104.keep K108 nin0).keep K111 nin0).keep K115 nin0).keep K119 nin0)
            have F126 : Fld Z T119.heap b101 cC0 "clause" cC1 (.null) := ((((F105.keep K108 nin0).keep K111 nin0).keep K115 nin0).keep K119 nin0)
            have F127 : Fld Z T119.heap b101 cC0 "rest" cC1 (.null) := ((((F106.keep K108 nin0).keep K111 nin0).keep K115 nin0).keep K119 nin0)
            have u129 : n0 ≤ b101 := Nat.le_trans Z0 (Nat.le_of_eq g101.symm)
            have z130 : h0.size ≤ T119.heap.size := Nat.le_trans z120 K119.1
            obtain ⟨_, T128, L128, X128, hQ128, st128⟩ := own_cI X119 hx hZ119 ho119 (WW hw 32) (WW hw 33) (WW hw 2) (WW hw 34) (rm6_1 l Z a0 hw [] b101 r0_108 b6_111 b5_115 r0_119 T119.heap n0 (Nat.le_trans Z0 z130) F123 F124 u129 F125 F126 F127) rfl hml (g := (mkF m 20 #[SI p1, SI p2, SI p3, SI p4, SU, SU] [VR r0_119, VR b5_115, VR b6_111, VR r0_108, VR b101, VR b101])) pd6 (hb hby at_20) b101 [VR r0_108, VR b6_111, VR b5_115, VR r0_119] [VR b101] (W := 1)
            obtain ⟨rfl, N128q, K128, o0_128, o1_128, o2_128, o3_128, o4_128⟩ := hQ128
            have hR131 := hR119.trans (CHr.keep K128 (allS (Safe.exa (State.Warmed39.alike hZ119) F123 (by decide) (by decide)) all0) hR119.1)
            have N128 := Fr.app N119 N128q
            refine own_go st128 ?_
            show own_Fin p e below _ T128 (mkF m 23 #[SI p1, SI p2, SI p3, SI p4, SU, SU] [VR b101])
            refine own_go (fun _ k => XS.astore X128.here hx rfl (hb hby at_23) rfl rfl (l' := #[SI p1, SI p2, SI p3, SI p4, SR b101, SU]) rfl (XS.iloadN X128.here hx rfl (hb hby at_25) rfl k)) ?_
            show own_Fin p e below _ T128 (mkF m 26 #[SI p1, SI p2, SI p3, SI p4, SR b101, SU] [VI p1])
            have z133 : h0.size ≤ T128.heap.size := Nat.le_trans z130 K128.1
            obtain ⟨_, T132, L132, X132, hQ132, st132⟩ := own_cS X128 hx hZ119 ho119 (WW hw 49) (WW hw 50) (WW hw 5) (WW hw 51) (rm8_m13 l Z a0 hw [] p1 T128.heap n0 (Nat.le_trans Z0 z133) (by rw [hc2]; decide : ¬ ((((p1.toUInt32 >>> ((24 : Int32) &&& 31).toUInt32).toInt32) &&& (3 : Int32)) < (1 : Int32))) (by rw [hc2]; decide : ¬ ((((p1.toUInt32 >>> ((24 : Int32) &&& 31).toUInt32).toInt32) &&& (3 : Int32)) < (2 : Int32))) (by rw [hc2]; decide : (((p1.toUInt32 >>> ((24 : Int32) &&& 31).toUInt32).toInt32) &&& (3 : Int32)) < (3 : Int32))) rfl hml (g := (mkF m 26 #[SI p1, SI p2, SI p3, SI p4, SR b101, SU] [VI p1])) pd7 (hb hby at_26) [VI p1] [] (W := 0)
            obtain ⟨rfl, N132q, e132⟩ := hQ132
            have N132 := Fr.app N128 N132q
            refine own_go st132 ?_
            show own_Fin p e below _ T132 (mkF m 29 #[SI p1, SI p2, SI p3, SI p4, SR b101, SU] [VI (own_f8_m13 p1)])
            by_cases hc5 : (own_f8_m13 p1) = (0 : Int32)
            ·
              refine own_go (fun _ k => XS.ifYes X132.here hx rfl (pc0 := 29) (pc' := 43) rfl (hb hby at_29) rfl ((if0 _ _).trans (teq hc5).1) (by decide) (by decide) (XS.iconst X132.here hx rfl (hb hby at_43) (XS.istore X132.here hx rfl (hb hby at_44) rfl (l' := #[SI p1, SI p2, SI p3, SI p4, SR b101, SI 0]) rfl (XS.aload X132.here hx rfl (hb hby at_46) rfl rfl k)))) ?_
              show own_Fin p e below _ T132 (mkF m 48 #[SI p1, SI p2, SI p3, SI p4, SR b101, SI 0] [VR b101])
              have F134 : Exa Z T128.heap b6_111 cC3 := (((o0_111.keep K115).keep K119).keep K128)
              have O135 : Old Z n0 T128.heap := ((O118.keep K119 all0).keep K128 (allS u129 all0))
              have z137 : h101.size ≤ T108.heap.size := K108.1
              have v136 : b101 ≠ b6_111 := Nat.ne_of_lt (Nat.lt_of_lt_of_le A101.lt (Nat.le_trans z137 lob6_111))
              have F138 : Fld Z T128.heap b6_111 cC3 "coder" "B" (VI 0) := (((o1_111.keep K115 nin0).keep K119 nin0).keep K128 (ninS (Ne.symm v136) nin0))
              have F139 : Fld Z T128.heap b6_111 cC3 "value" "[B" (VR t22_111) := (((o2_111.keep K115 nin0).keep K119 nin0).keep K128 (ninS (Ne.symm v136) nin0))
              have v140 : b101 ≠ t22_111 := Nat.ne_of_lt (Nat.lt_of_lt_of_le A101.lt (Nat.le_trans z137 lot22_111))
              have F141 : Arv Z T128.heap t22_111 kb22_111 .byte 2 [VI ((nar .char (own_f19_m4 p1)).toInt8.toInt32), VI ((nar .char (own_f19_m5 p1)).toInt8.toInt32)] (VI 0) := (((o3_111.keep K115 nin0).keep K119 nin0).keep K128 (ninS (Ne.symm v140) nin0))
              obtain ⟨_, T142, L142, X142, hQ142, st142⟩ := own_cV X132 hx hZ119 ho119 (WW hw 52) (WW hw 53) (notFace_of_selects (args := #[]) (mvT hZ119 (WW hw 55))) (WW hw 55) (WW hw 54) (WW hw 2) (WW hw 56) (rm9_16 l Z a0 hw [] b101 b6_111 G1 t22_111 kb22_111 ((nar .char (own_f19_m4 p1)).toInt8.toInt32) ((nar .char (own_f19_m5 p1)).toInt8.toInt32) T128.heap n0 (Nat.le_trans Z0 z133) o2_128 F134 O_G1 O135 P_G1 F138 F139 F141 ((own_link_23_m17_8_m13 p1).1 hc5)) e132 o0_128 hml (g := (mkF m 48 #[SI p1, SI p2, SI p3, SI p4, SR b101, SI 0] [VR b101])) pd8 (hb hby at_48) [] [] (W := 0)
              obtain ⟨rfl, N142q, e142⟩ := hQ142
              have N142 := Fr.app N132 N142q
              refine own_go st142 ?_
              show own_Fin p e below _ T142 (mkF m 51 #[SI p1, SI p2, SI p3, SI p4, SR b101, SI 0] [VI 0])
              refine own_go (fun _ k => XS.iload X142.here hx rfl (hb hby at_51) rfl (XS.icmpNo X142.here hx rfl (hb hby at_53) rfl (teq (by decide : (0 : Int32) = (0 : Int32))).2 (XS.iconst X142.here hx rfl (hb hby at_56) (XS.goto X142.here hx rfl (pc0 := 57) (pc' := 61) rfl (hb hby at_57) (by decide) (by decide) k)))) ?_
              show own_Fin p e below _ T142 (mkF m 61 #[SI p1, SI p2, SI p3, SI p4, SR b101, SI 0] [VI 1])
              have z143 : T119.heap.size ≤ T128.heap.size := K128.1
              obtain ⟨fs, hr, hrun, hended, hend⟩ := Jvm.Stand.leaveW X142 hS119 (by rw [e142]; exact (Nat.le_trans (Nat.le_refl _) z143)) (v := some (.int (1 : Int32))) (fun h => by rw [hret] at h; cases h)
              refine own_end (retN X142 hx (t := .boolean) hret (by simp) (hb hby at_61) hr) hrun hended ⟨_, _, rfl, ?_, hend.1, hend.2.1, hend.2.2.1, hend.2.2.2.mono (by decide) (by decide)⟩
              show Q0 n0 _ T142.heap _
              rw [e142]
              exact ⟨rfl, N142⟩
            ·
              refine own_go (fun _ k => XS.ifNo X132.here hx rfl (hb hby at_29) rfl ((if0 _ _).trans (feq hc5).1) (XS.iloadN X132.here hx rfl (hb hby at_32) rfl k)) ?_
              show own_Fin p e below _ T132 (mkF m 33 #[SI p1, SI p2, SI p3, SI p4, SR b101, SU] [VI p2])
              obtain ⟨_, T134, L134, X134, hQ134, st134⟩ := own_cS X132 hx hZ119 ho119 (WW hw 49) (WW hw 50) (WW hw 5) (WW hw 51) (rm8_m8 l Z a0 hw [] p2 T128.heap n0 (Nat.le_trans Z0 z133) (by rw [hc4]; decide : ¬ ((((p2.toUInt32 >>> ((24 : Int32) &&& 31).toUInt32).toInt32) &&& (3 : Int32)) < (1 : Int32))) (by rw [hc4]; decide : (((p2.toUInt32 >>> ((24 : Int32) &&& 31).toUInt32).toInt32) &&& (3 : Int32)) < (2 : Int32)) (by rw [hc4]; decide : (((p2.toUInt32 >>> ((24 : Int32) &&& 31).toUInt32).toInt32) &&& (3 : Int32)) < (3 : Int32))) e132 hml (g := (mkF m 33 #[SI p1, SI p2, SI p3, SI p4, SR b101, SU] [VI p2])) pd7 (hb hby at_33) [VI p2] [] (W := 0)
              obtain ⟨rfl, N134q, e134⟩ := hQ134
              have N134 := Fr.app N132 N134q
              refine own_go st134 ?_
              show own_Fin p e below _ T134 (mkF m 36 #[SI p1, SI p2, SI p3, SI p4, SR b101, SU] [VI (own_f8_m8 p2)])
              by_cases hc6 : (own_f8_m8 p2) = (0 : Int32)
              ·
                refine own_go (fun _ k => XS.ifYes X134.here hx rfl (pc0 := 36) (pc' := 43) rfl (hb hby at_36) rfl ((if0 _ _).trans (teq hc6).1) (by decide) (by decide) (XS.iconst X134.here hx rfl (hb hby at_43) (XS.istore X134.here hx rfl (hb hby at_44) rfl (l' := #[SI p1, SI p2, SI p3, SI p4, SR b101, SI 0]) rfl (XS.aload X134.here hx rfl (hb hby at_46) rfl rfl k)))) ?_
                show own_Fin p e below _ T134 (mkF m 48 #[SI p1, SI p2, SI p3, SI p4, SR b101, SI 0] [VR b101])
                have F135 : Exa Z T128.heap b6_111 cC3 := (((o0_111.keep K115).keep K119).keep K128)
                have O136 : Old Z n0 T128.heap := ((O118.keep K119 all0).keep K128 (allS u129 all0))
                have z138 : h101.size ≤ T108.heap.size := K108.1
                have v137 : b101 ≠ b6_111 := Nat.ne_of_lt (Nat.lt_of_lt_of_le A101.lt (Nat.le_trans z138 lob6_111))
                have F139 : Fld Z T128.heap b6_111 cC3 "coder" "B" (VI 0) := (((o1_111.keep K115 nin0).keep K119 nin0).keep K128 (ninS (Ne.symm v137) nin0))
                have F140 : Fld Z T128.heap b6_111 cC3 "value" "[B" (VR t22_111) := (((o2_111.keep K115 nin0).keep K119 nin0).keep K128 (ninS (Ne.symm v137) nin0))
                have v141 : b101 ≠ t22_111 := Nat.ne_of_lt (Nat.lt_of_lt_of_le A101.lt (Nat.le_trans z138 lot22_111))
                have F142 : Arv Z T128.heap t22_111 kb22_111 .byte 2 [VI ((nar .char (own_f19_m4 p1)).toInt8.toInt32), VI ((nar .char (own_f19_m5 p1)).toInt8.toInt32)] (VI 0) := (((o3_111.keep K115 nin0).keep K119 nin0).keep K128 (ninS (Ne.symm v141) nin0))
                have F143 : Exa Z T128.heap b5_115 cC3 := ((o0_115.keep K119).keep K128)
                have z145 : h101.size ≤ T111.heap.size := Nat.le_trans z138 K111.1
                have v144 : b101 ≠ b5_115 := Nat.ne_of_lt (Nat.lt_of_lt_of_le A101.lt (Nat.le_trans z145 lob5_115))
                have F146 : Fld Z T128.heap b5_115 cC3 "coder" "B" (VI 0) := ((o1_115.keep K119 nin0).keep K128 (ninS (Ne.symm v144) nin0))
                have F147 : Fld Z T128.heap b5_115 cC3 "value" "[B" (VR t16_115) := ((o2_115.keep K119 nin0).keep K128 (ninS (Ne.symm v144) nin0))
                have v148 : b101 ≠ t16_115 := Nat.ne_of_lt (Nat.lt_of_lt_of_le A101.lt (Nat.le_trans z145 lot16_115))
                have F149 : Arv Z T128.heap t16_115 kb16_115 .byte 1 [VI ((nar .char (own_f19_m4 p2)).toInt8.toInt32)] (VI 0) := ((o3_115.keep K119 nin0).keep K128 (ninS (Ne.symm v148) nin0))
                obtain ⟨_, T150, L150, X150, hQ150, st150⟩ := own_cV X134 hx hZ119 ho119 (WW hw 52) (WW hw 53) (notFace_of_selects (args := #[]) (mvT hZ119 (WW hw 55))) (WW hw 55) (WW hw 54) (WW hw 2) (WW hw 56) (rm9_18 l Z a0 hw [] b101 b6_111 G1 t22_111 kb22_111 ((nar .char (own_f19_m4 p1)).toInt8.toInt32) ((nar .char (own_f19_m5 p1)).toInt8.toInt32) b5_115 t16_115 kb16_115 ((nar .char (own_f19_m4 p2)).toInt8.toInt32) T128.heap n0 (Nat.le_trans Z0 z133) o2_128 F135 O_G1 O136 P_G1 F139 F140 F142 ((own_link_23_m17_8_m13 p1).2 hc5) o3_128 F143 F146 F147 F149 ((own_link_23_m12_8_m8 p2).1 hc6)) e134 o0_128 hml (g := (mkF m 48 #[SI p1, SI p2, SI p3, SI p4, SR b101, SI 0] [VR b101])) pd8 (hb hby at_48) [] [] (W := 0)
                obtain ⟨rfl, N150q, e150⟩ := hQ150
                have N150 := Fr.app N134 N150q
                refine own_go st150 ?_
                show own_Fin p e below _ T150 (mkF m 51 #[SI p1, SI p2, SI p3, SI p4, SR b101, SI 0] [VI 0])
                refine own_go (fun _ k => XS.iload X150.here hx rfl (hb hby at_51) rfl (XS.icmpNo X150.here hx rfl (hb hby at_53) rfl (teq (by decide : (0 : Int32) = (0 : Int32))).2 (XS.iconst X150.here hx rfl (hb hby at_56) (XS.goto X150.here hx rfl (pc0 := 57) (pc' := 61) rfl (hb hby at_57) (by decide) (by decide) k)))) ?_
                show own_Fin p e below _ T150 (mkF m 61 #[SI p1, SI p2, SI p3, SI p4, SR b101, SI 0] [VI 1])
                have z151 : T119.heap.size ≤ T128.heap.size := K128.1
                obtain ⟨fs, hr, hrun, hended, hend⟩ := Jvm.Stand.leaveW X150 hS119 (by rw [e150]; exact (Nat.le_trans (Nat.le_refl _) z151)) (v := some (.int (1 : Int32))) (fun h => by rw [hret] at h; cases h)
                refine own_end (retN X150 hx (t := .boolean) hret (by simp) (hb hby at_61) hr) hrun hended ⟨_, _, rfl, ?_, hend.1, hend.2.1, hend.2.2.1, hend.2.2.2.mono (by decide) (by decide)⟩
                show Q0 n0 _ T150.heap _
                rw [e150]
                exact ⟨rfl, N150⟩
              ·
                refine own_go (fun _ k => XS.ifNo X134.here hx rfl (hb hby at_36) rfl ((if0 _ _).trans (feq hc6).1) (XS.iconst X134.here hx rfl (hb hby at_39) (XS.goto X134.here hx rfl (pc0 := 40) (pc' := 44) rfl (hb hby at_40) (by decide) (by decide) (XS.istore X134.here hx rfl (hb hby at_44) rfl (l' := #[SI p1, SI p2, SI p3, SI p4, SR b101, SI 1]) rfl (XS.aload X134.here hx rfl (hb hby at_46) rfl rfl k))))) ?_
                show own_Fin p e below _ T134 (mkF m 48 #[SI p1, SI p2, SI p3, SI p4, SR b101, SI 1] [VR b101])
                have F135 : Exa Z T128.heap b6_111 cC3 := (((o0_111.keep K115).keep K119).keep K128)
                have O136 : Old Z n0 T128.heap := ((O118.keep K119 all0).keep K128 (allS u129 all0))
                have z138 : h101.size ≤ T108.heap.size := K108.1
                have v137 : b101 ≠ b6_111 := Nat.ne_of_lt (Nat.lt_of_lt_of_le A101.lt (Nat.le_trans z138 lob6_111))
                have F139 : Fld Z T128.heap b6_111 cC3 "coder" "B" (VI 0) := (((o1_111.keep K115 nin0).keep K119 nin0).keep K128 (ninS (Ne.symm v137) nin0))
                have F140 : Fld Z T128.heap b6_111 cC3 "value" "[B" (VR t22_111) := (((o2_111.keep K115 nin0).keep K119 nin0).keep K128 (ninS (Ne.symm v137) nin0))
                have v141 : b101 ≠ t22_111 := Nat.ne_of_lt (Nat.lt_of_lt_of_le A101.lt (Nat.le_trans z138 lot22_111))
                have F142 : Arv Z T128.heap t22_111 kb22_111 .byte 2 [VI ((nar .char (own_f19_m4 p1)).toInt8.toInt32), VI ((nar .char (own_f19_m5 p1)).toInt8.toInt32)] (VI 0) := (((o3_111.keep K115 nin0).keep K119 nin0).keep K128 (ninS (Ne.symm v141) nin0))
                have F143 : Exa Z T128.heap b5_115 cC3 := ((o0_115.keep K119).keep K128)
                have z145 : h101.size ≤ T111.heap.size := Nat.le_trans z138 K111.1
                have v144 : b101 ≠ b5_115 := Nat.ne_of_lt (Nat.lt_of_lt_of_le A101.lt (Nat.le_trans z145 lob5_115))
                have F146 : Fld Z T128.heap b5_115 cC3 "coder" "B" (VI 0) := ((o1_115.keep K119 nin0).keep K128 (ninS (Ne.symm v144) nin0))
                have F147 : Fld Z T128.heap b5_115 cC3 "value" "[B" (VR t16_115) := ((o2_115.keep K119 nin0).keep K128 (ninS (Ne.symm v144) nin0))
                have v148 : b101 ≠ t16_115 := Nat.ne_of_lt (Nat.lt_of_lt_of_le A101.lt (Nat.le_trans z145 lot16_115))
                have F149 : Arv Z T128.heap t16_115 kb16_115 .byte 1 [VI ((nar .char (own_f19_m4 p2)).toInt8.toInt32)] (VI 0) := ((o3_115.keep K119 nin0).keep K128 (ninS (Ne.symm v148) nin0))
                obtain ⟨_, T150, L150, X150, hQ150, st150⟩ := own_cV X134 hx hZ119 ho119 (WW hw 52) (WW hw 53) (notFace_of_selects (args := #[]) (mvT hZ119 (WW hw 55))) (WW hw 55) (WW hw 54) (WW hw 2) (WW hw 56) (rm9_19 l Z a0 hw [] b101 b6_111 G1 t22_111 kb22_111 ((nar .char (own_f19_m4 p1)).toInt8.toInt32) ((nar .char (own_f19_m5 p1)).toInt8.toInt32) b5_115 t16_115 kb16_115 ((nar .char (own_f19_m4 p2)).toInt8.toInt32) T128.heap n0 (Nat.le_trans Z0 z133) o2_128 F135 O_G1 O136 P_G1 F139 F140 F142 ((own_link_23_m17_8_m13 p1).2 hc5) o3_128 F143 F146 F147 F149 ((own_link_23_m12_8_m8 p2).2 hc6)) e134 o0_128 hml (g := (mkF m 48 #[SI p1, SI p2, SI p3, SI p4, SR b101, SI 1] [VR b101])) pd8 (hb hby at_48) [] [] (W := 0)
                obtain ⟨rfl, N150q, e150⟩ := hQ150
                have N150 := Fr.app N134 N150q
                refine own_go st150 ?_
                show own_Fin p e below _ T150 (mkF m 51 #[SI p1, SI p2, SI p3, SI p4, SR b101, SI 1] [VI 1])
                refine own_go (fun _ k => XS.iload X150.here hx rfl (hb hby at_51) rfl (XS.icmpNo X150.here hx rfl (hb hby at_53) rfl (teq (by decide : (1 : Int32) = (1 : Int32))).2 (XS.iconst X150.here hx rfl (hb hby at_56) (XS.goto X150.here hx rfl (pc0 := 57) (pc' := 61) rfl (hb hby at_57) (by decide) (by decide) k)))) ?_
                show own_Fin p e below _ T150 (mkF m 61 #[SI p1, SI p2, SI p3, SI p4, SR b101, SI 1] [VI 1])
                have z151 : T119.heap.size ≤ T128.heap.size := K128.1
                obtain ⟨fs, hr, hrun, hended, hend⟩ := Jvm.Stand.leaveW X150 hS119 (by rw [e150]; exact (Nat.le_trans (Nat.le_refl _) z151)) (v := some (.int (1 : Int32))) (fun h => by rw [hret] at h; cases h)
                refine own_end (retN X150 hx (t := .boolean) hret (by simp) (hb hby at_61) hr) hrun hended ⟨_, _, rfl, ?_, hend.1, hend.2.1, hend.2.2.1, hend.2.2.2.mono (by decide) (by decide)⟩
                show Q0 n0 _ T150.heap _
                rw [e150]
                exact ⟨rfl, N150⟩
          ·
            by_cases hc5 : (((p2.toUInt32 >>> ((24 : Int32) &&& 31).toUInt32).toInt32) &&& (3 : Int32)) = (2 : Int32)
            ·
              obtain ⟨_, T115, L115, X115, hQ115, st115⟩ := own_cS X111 hx hZ108 ho108 (WW hw 3) (WW hw 4) (WW hw 5) (WW hw 6) (rm1_4 l Z a0 hw [] p2 G1 T111.heap n0 (Nat.le_trans Z0 z116) hc3 hc4 hc5 O_G1 O114 P_G1) rfl hml (g := (mkF m 13 #[SI p1, SI p2, SI p3, SI p4, SU, SU] [VI p2, VR b6_111, VR r0_108, VR b101, VR b101])) pd4 (hb hby at_13) [VI p2] [VR b6_111, VR r0_108, VR b101, VR b101] (W := 4)
              obtain ⟨b6_115, t22_115, kb22_115, rfl, N115q, K115, lob6_115, lot22_115, neb6t22_115, o0_115, o1_115, o2_115, o3_115⟩ := hQ115
              have hR117 := hR113.trans (CHr.keep K115 all0 hR113.1)
              have N115 := Fr.app N111 N115q
              refine own_go st115 ?_
              show own_Fin p e below _ T115 (mkF m 16 #[SI p1, SI p2, SI p3, SI p4, SU, SU] [VR b6_115, VR b6_111, VR r0_108, VR b101, VR b101])
              refine own_go (fun _ k => XS.iloadN X115.here hx rfl (hb hby at_16) rfl k) ?_
              show own_Fin p e below _ T115 (mkF m 17 #[SI p1, SI p2, SI p3, SI p4, SU, SU] [VI p4, VR b6_115, VR b6_111, VR r0_108, VR b101, VR b101])
              have O118 : Old Z n0 T115.heap := (O114.keep K115 all0)
              have z120 : h0.size ≤ T115.heap.size := Nat.le_trans z116 K115.1
              have z121 : T108.heap.size ≤ T111.heap.size := K111.1
              have z122 : T108.heap.size ≤ T115.heap.size := Nat.le_trans z121 K115.1
              obtain ⟨_, T119, L119, X119, hQ119, hS119, hZ119, ho119, hC119, st119⟩ := own_cSH (vm0 := (s.setVm T108.vm).vm) X115 hx hZ108 ho108 hS108 (Nat.le_trans (Nat.le_refl _) z122) hEL hR117.1 (WW hw 3) (WW hw 4) (WW hw 5) (WW hw 6) (rm1_m3 l Z a0 hw [] p4 G1 T115.heap n0 (Nat.le_trans Z0 z120) O_G1 O118 P_G1) rfl hml (g := (mkF m 17 #[SI p1, SI p2, SI p3, SI p4, SU, SU] [VI p4, VR b6_115, VR b6_111, VR r0_108, VR b101, VR b101])) pd4 (hb hby at_17) [VI p4] [VR b6_115, VR b6_111, VR r0_108, VR b101, VR b101] (W := 5)
              have hR119 := hR117.trans hC119
              obtain ⟨r0_119, rfl, N119q, K119, o0_119⟩ := hQ119
              have N119 := Fr.app N115 N119q
              refine own_go st119 ?_
              show own_Fin p e below _ T119 (mkF m 20 #[SI p1, SI p2, SI p3, SI p4, SU, SU] [VR r0_119, VR b6_115, VR b6_111, VR r0_108, VR b101, VR b101])
              have F123 : Exa Z T119.heap b101 cC0 := ((((A101.keep K108).keep K111).keep K115).keep K119)
              have F124 : Fld Z T119.heap b101 cC0 "printed" cC1 (.null) := ((((F103.keep K108 nin0).keep K111 nin0).keep K115 nin0).keep K119 nin0)
              have F125 : Fld Z T119.heap b101 cC0 "article" cC1 (.null) := ((((F104.keep K108 nin0).keep K111 nin0).keep K115 nin0).keep K119 nin0)
              have F126 : Fld Z T119.heap b101 cC0 "clause" cC1 (.null) := ((((F105.keep K108 nin0).keep K111 nin0).keep K115 nin0).keep K119 nin0)
              have F127 : Fld Z T119.heap b101 cC0 "rest" cC1 (.null) := ((((F106.keep K108 nin0).keep K111 nin0).keep K115 nin0).keep K119 nin0)
              have u129 : n0 ≤ b101 := Nat.le_trans Z0 (Nat.le_of_eq g101.symm)
              have z130 : h0.size ≤ T119.heap.size := Nat.le_trans z120 K119.1
              obtain ⟨_, T128, L128, X128, hQ128, st128⟩ := own_cI X119 hx hZ119 ho119 (WW hw 32) (WW hw 33) (WW hw 2) (WW hw 34) (rm6_1 l Z a0 hw [] b101 r0_108 b6_111 b6_115 r0_119 T119.heap n0 (Nat.le_trans Z0 z130) F123 F124 u129 F125 F126 F127) rfl hml (g := (mkF m 20 #[SI p1, SI p2, SI p3, SI p4, SU, SU] [VR r0_119, VR b6_115, VR b6_111, VR r0_108, VR b101, VR b101])) pd6 (hb hby at_20) b101 [VR r0_108, VR b6_111, VR b6_115, VR r0_119] [VR b101] (W := 1)
              obtain ⟨rfl, N128q, K128, o0_128, o1_128, o2_128, o3_128, o4_128⟩ := hQ128
              have hR131 := hR119.trans (CHr.keep K128 (allS (Safe.exa (State.Warmed39.alike hZ119) F123 (by decide) (by decide)) all0) hR119.1)
              have N128 := Fr.app N119 N128q
              refine own_go st128 ?_
              show own_Fin p e below _ T128 (mkF m 23 #[SI p1, SI p2, SI p3, SI p4, SU, SU] [VR b101])
              refine own_go (fun _ k => XS.astore X128.here hx rfl (hb hby at_23) rfl rfl (l' := #[SI p1, SI p2, SI p3, SI p4, SR b101, SU]) rfl (XS.iloadN X128.here hx rfl (hb hby at_25) rfl k)) ?_
              show own_Fin p e below _ T128 (mkF m 26 #[SI p1, SI p2, SI p3, SI p4, SR b101, SU] [VI p1])
              have z133 : h0.size ≤ T128.heap.size := Nat.le_trans z130 K128.1
              obtain ⟨_, T132, L132, X132, hQ132, st132⟩ := own_cS X128 hx hZ119 ho119 (WW hw 49) (WW hw 50) (WW hw 5) (WW hw 51) (rm8_m13 l Z a0 hw [] p1 T128.heap n0 (Nat.le_trans Z0 z133) (by rw [hc2]; decide : ¬ ((((p1.toUInt32 >>> ((24 : Int32) &&& 31).toUInt32).toInt32) &&& (3 : Int32)) < (1 : Int32))) (by rw [hc2]; decide : ¬ ((((p1.toUInt32 >>> ((24 : Int32) &&& 31).toUInt32).toInt32) &&& (3 : Int32)) < (2 : Int32))) (by rw [hc2]; decide : (((p1.toUInt32 >>> ((24 : Int32) &&& 31).toUInt32).toInt32) &&& (3 : Int32)) < (3 : Int32))) rfl hml (g := (mkF m 26 #[SI p1, SI p2, SI p3, SI p4, SR b101, SU] [VI p1])) pd7 (hb hby at_26) [VI p1] [] (W := 0)
              obtain ⟨rfl, N132q, e132⟩ := hQ132
              have N132 := Fr.app N128 N132q
              refine own_go st132 ?_
              show own_Fin p e below _ T132 (mkF m 29 #[SI p1, SI p2, SI p3, SI p4, SR b101, SU] [VI (own_f8_m13 p1)])
              by_cases hc6 : (own_f8_m13 p1) = (0 : Int32)
              ·
                refine own_go (fun _ k => XS.ifYes X132.here hx rfl (pc0 := 29) (pc' := 43) rfl (hb hby at_29) rfl ((if0 _ _).trans (teq hc6).1) (by decide) (by decide) (XS.iconst X132.here hx rfl (hb hby at_43) (XS.istore X132.here hx rfl (hb hby at_44) rfl (l' := #[SI p1, SI p2, SI p3, SI p4, SR b101, SI 0]) rfl (XS.aload X132.here hx rfl (hb hby at_46) rfl rfl k)))) ?_
                show own_Fin p e below _ T132 (mkF m 48 #[SI p1, SI p2, SI p3, SI p4, SR b101, SI 0] [VR b101])
                have F134 : Exa Z T128.heap b6_111 cC3 := (((o0_111.keep K115).keep K119).keep K128)
                have O135 : Old Z n0 T128.heap := ((O118.keep K119 all0).keep K128 (allS u129 all0))
                have z137 : h101.size ≤ T108.heap.size := K108.1
                have v136 : b101 ≠ b6_111 := Nat.ne_of_lt (Nat.lt_of_lt_of_le A101.lt (Nat.le_trans z137 lob6_111))
                have F138 : Fld Z T128.heap b6_111 cC3 "coder" "B" (VI 0) := (((o1_111.keep K115 nin0).keep K119 nin0).keep K128 (ninS (Ne.symm v136) nin0))
                have F139 : Fld Z T128.heap b6_111 cC3 "value" "[B" (VR t22_111) := (((o2_111.keep K115 nin0).keep K119 nin0).keep K128 (ninS (Ne.symm v136) nin0))
                have v140 : b101 ≠ t22_111 := Nat.ne_of_lt (Nat.lt_of_lt_of_le A101.lt (Nat.le_trans z137 lot22_111))
                have F141 : Arv Z T128.heap t22_111 kb22_111 .byte 2 [VI ((nar .char (own_f19_m4 p1)).toInt8.toInt32), VI ((nar .char (own_f19_m5 p1)).toInt8.toInt32)] (VI 0) := (((o3_111.keep K115 nin0).keep K119 nin0).keep K128 (ninS (Ne.symm v140) nin0))
                obtain ⟨_, T142, L142, X142, hQ142, st142⟩ := own_cV X132 hx hZ119 ho119 (WW hw 52) (WW hw 53) (notFace_of_selects (args := #[]) (mvT hZ119 (WW hw 55))) (WW hw 55) (WW hw 54) (WW hw 2) (WW hw 56) (rm9_16 l Z a0 hw [] b101 b6_111 G1 t22_111 kb22_111 ((nar .char (own_f19_m4 p1)).toInt8.toInt32) ((nar .char (own_f19_m5 p1)).toInt8.toInt32) T128.heap n0 (Nat.le_trans Z0 z133) o2_128 F134 O_G1 O135 P_G1 F138 F139 F141 ((own_link_23_m17_8_m13 p1).1 hc6)) e132 o0_128 hml (g := (mkF m 48 #[SI p1, SI p2, SI p3, SI p4, SR b101, SI 0] [VR b101])) pd8 (hb hby at_48) [] [] (W := 0)
                obtain ⟨rfl, N142q, e142⟩ := hQ142
                have N142 := Fr.app N132 N142q
                refine own_go st142 ?_
                show own_Fin p e below _ T142 (mkF m 51 #[SI p1, SI p2, SI p3, SI p4, SR b101, SI 0] [VI 0])
                refine own_go (fun _ k => XS.iload X142.here hx rfl (hb hby at_51) rfl (XS.icmpNo X142.here hx rfl (hb hby at_53) rfl (teq (by decide : (0 : Int32) = (0 : Int32))).2 (XS.iconst X142.here hx rfl (hb hby at_56) (XS.goto X142.here hx rfl (pc0 := 57) (pc' := 61) rfl (hb hby at_57) (by decide) (by decide) k)))) ?_
                show own_Fin p e below _ T142 (mkF m 61 #[SI p1, SI p2, SI p3, SI p4, SR b101, SI 0] [VI 1])
                have z143 : T119.heap.size ≤ T128.heap.size := K128.1
                obtain ⟨fs, hr, hrun, hended, hend⟩ := Jvm.Stand.leaveW X142 hS119 (by rw [e142]; exact (Nat.le_trans (Nat.le_refl _) z143)) (v := some (.int (1 : Int32))) (fun h => by rw [hret] at h; cases h)
                refine own_end (retN X142 hx (t := .boolean) hret (by simp) (hb hby at_61) hr) hrun hended ⟨_, _, rfl, ?_, hend.1, hend.2.1, hend.2.2.1, hend.2.2.2.mono (by decide) (by decide)⟩
                show Q0 n0 _ T142.heap _
                rw [e142]
                exact ⟨rfl, N142⟩
              ·
                refine own_go (fun _ k => XS.ifNo X132.here hx rfl (hb hby at_29) rfl ((if0 _ _).trans (feq hc6).1) (XS.iloadN X132.here hx rfl (hb hby at_32) rfl k)) ?_
                show own_Fin p e below _ T132 (mkF m 33 #[SI p1, SI p2, SI p3, SI p4, SR b101, SU] [VI p2])
                obtain ⟨_, T134, L134, X134, hQ134, st134⟩ := own_cS X132 hx hZ119 ho119 (WW hw 49) (WW hw 50) (WW hw 5) (WW hw 51) (rm8_m13 l Z a0 hw [] p2 T128.heap n0 (Nat.le_trans Z0 z133) (by rw [hc5]; decide : ¬ ((((p2.toUInt32 >>> ((24 : Int32) &&& 31).toUInt32).toInt32) &&& (3 : Int32)) < (1 : Int32))) (by rw [hc5]; decide : ¬ ((((p2.toUInt32 >>> ((24 : Int32) &&& 31).toUInt32).toInt32) &&& (3 : Int32)) < (2 : Int32))) (by rw [hc5]; decide : (((p2.toUInt32 >>> ((24 : Int32) &&& 31).toUInt32).toInt32) &&& (3 : Int32)) < (3 : Int32))) e132 hml (g := (mkF m 33 #[SI p1, SI p2, SI p3, SI p4, SR b101, SU] [VI p2])) pd7 (hb hby at_33) [VI p2] [] (W := 0)
                obtain ⟨rfl, N134q, e134⟩ := hQ134
                have N134 := Fr.app N132 N134q
                refine own_go st134 ?_
                show own_Fin p e below _ T134 (mkF m 36 #[SI p1, SI p2, SI p3, SI p4, SR b101, SU] [VI (own_f8_m13 p2)])
                by_cases hc7 : (own_f8_m13 p2) = (0 : Int32)
                ·
                  refine own_go (fun _ k => XS.ifYes X134.here hx rfl (pc0 := 36) (pc' := 43) rfl (hb hby at_36) rfl ((if0 _ _).trans (teq hc7).1) (by decide) (by decide) (XS.iconst X134.here hx rfl (hb hby at_43) (XS.istore X134.here hx rfl (hb hby at_44) rfl (l' := #[SI p1, SI p2, SI p3, SI p4, SR b101, SI 0]) rfl (XS.aload X134.here hx rfl (hb hby at_46) rfl rfl k)))) ?_
                  show own_Fin p e below _ T134 (mkF m 48 #[SI p1, SI p2, SI p3, SI p4, SR b101, SI 0] [VR b101])
                  have F135 : Exa Z T128.heap b6_111 cC3 := (((o0_111.keep K115).keep K119).keep K128)
                  have O136 : Old Z n0 T128.heap := ((O118.keep K119 all0).keep K128 (allS u129 all0))
                  have z138 : h101.size ≤ T108.heap.size := K108.1
                  have v137 : b101 ≠ b6_111 := Nat.ne_of_lt (Nat.lt_of_lt_of_le A101.lt (Nat.le_trans z138 lob6_111))
                  have F139 : Fld Z T128.heap b6_111 cC3 "coder" "B" (VI 0) := (((o1_111.keep K115 nin0).keep K119 nin0).keep K128 (ninS (Ne.symm v137) nin0))
                  have F140 : Fld Z T128.heap b6_111 cC3 "value" "[B" (VR t22_111) := (((o2_111.keep K115 nin0).keep K119 nin0).keep K128 (ninS (Ne.symm v137) nin0))
                  have v141 : b101 ≠ t22_111 := Nat.ne_of_lt (Nat.lt_of_lt_of_le A101.lt (Nat.le_trans z138 lot22_111))
                  have F142 : Arv Z T128.heap t22_111 kb22_111 .byte 2 [VI ((nar .char (own_f19_m4 p1)).toInt8.toInt32), VI ((nar .char (own_f19_m5 p1)).toInt8.toInt32)] (VI 0) := (((o3_111.keep K115 nin0).keep K119 nin0).keep K128 (ninS (Ne.symm v141) nin0))
                  have F143 : Exa Z T128.heap b6_115 cC3 := ((o0_115.keep K119).keep K128)
                  have z145 : h101.size ≤ T111.heap.size := Nat.le_trans z138 K111.1
                  have v144 : b101 ≠ b6_115 := Nat.ne_of_lt (Nat.lt_of_lt_of_le A101.lt (Nat.le_trans z145 lob6_115))
                  have F146 : Fld Z T128.heap b6_115 cC3 "coder" "B" (VI 0) := ((o1_115.keep K119 nin0).keep K128 (ninS (Ne.symm v144) nin0))
                  have F147 : Fld Z T128.heap b6_115 cC3 "value" "[B" (VR t22_115) := ((o2_115.keep K119 nin0).keep K128 (ninS (Ne.symm v144) nin0))
                  have v148 : b101 ≠ t22_115 := Nat.ne_of_lt (Nat.lt_of_lt_of_le A101.lt (Nat.le_trans z145 lot22_115))
                  have F149 : Arv Z T128.heap t22_115 kb22_115 .byte 2 [VI ((nar .char (own_f19_m4 p2)).toInt8.toInt32), VI ((nar .char (own_f19_m5 p2)).toInt8.toInt32)] (VI 0) := ((o3_115.keep K119 nin0).keep K128 (ninS (Ne.symm v148) nin0))
                  obtain ⟨_, T150, L150, X150, hQ150, st150⟩ := own_cV X134 hx hZ119 ho119 (WW hw 52) (WW hw 53) (notFace_of_selects (args := #[]) (mvT hZ119 (WW hw 55))) (WW hw 55) (WW hw 54) (WW hw 2) (WW hw 56) (rm9_20 l Z a0 hw [] b101 b6_111 G1 t22_111 kb22_111 ((nar .char (own_f19_m4 p1)).toInt8.toInt32) ((nar .char (own_f19_m5 p1)).toInt8.toInt32) b6_115 t22_115 kb22_115 ((nar .char (own_f19_m4 p2)).toInt8.toInt32) ((nar .char (own_f19_m5 p2)).toInt8.toInt32) T128.heap n0 (Nat.le_trans Z0 z133) o2_128 F135 O_G1 O136 P_G1 F139 F140 F142 ((own_link_23_m17_8_m13 p1).2 hc6) o3_128 F143 F146 F147 F149 ((own_link_23_m17_8_m13 p2).1 hc7)) e134 o0_128 hml (g := (mkF m 48 #[SI p1, SI p2, SI p3, SI p4, SR b101, SI 0] [VR b101])) pd8 (hb hby at_48) [] [] (W := 0)
                  obtain ⟨rfl, N150q, e150⟩ := hQ150
                  have N150 := Fr.app N134 N150q
                  refine own_go st150 ?_
                  show own_Fin p e below _ T150 (mkF m 51 #[SI p1, SI p2, SI p3, SI p4, SR b101, SI 0] [VI 0])
                  refine own_go (fun _ k => XS.iload X150.here hx rfl (hb hby at_51) rfl (XS.icmpNo X150.here hx rfl (hb hby at_53) rfl (teq (by decide : (0 : Int32) = (0 : Int32))).2 (XS.iconst X150.here hx rfl (hb hby at_56) (XS.goto X150.here hx rfl (pc0 := 57) (pc' := 61) rfl (hb hby at_57) (by decide) (by decide) k)))) ?_
                  show own_Fin p e below _ T150 (mkF m 61 #[SI p1, SI p2, SI p3, SI p4, SR b101, SI 0] [VI 1])
                  have z151 : T119.heap.size ≤ T128.heap.size := K128.1
                  obtain ⟨fs, hr, hrun, hended, hend⟩ := Jvm.Stand.leaveW X150 hS119 (by rw [e150]; exact (Nat.le_trans (Nat.le_refl _) z151)) (v := some (.int (1 : Int32))) (fun h => by rw [hret] at h; cases h)
                  refine own_end (retN X150 hx (t := .boolean) hret (by simp) (hb hby at_61) hr) hrun hended ⟨_, _, rfl, ?_, hend.1, hend.2.1, hend.2.2.1, hend.2.2.2.mono (by decide) (by decide)⟩
                  show Q0 n0 _ T150.heap _
                  rw [e150]
                  exact ⟨rfl, N150⟩
                ·
                  refine own_go (fun _ k => XS.ifNo X134.here hx rfl (hb hby at_36) rfl ((if0 _ _).trans (feq hc7).1) (XS.iconst X134.here hx rfl (hb hby at_39) (XS.goto X134.here hx rfl (pc0 := 40) (pc' := 44) rfl (hb hby at_40) (by decide) (by decide) (XS.istore X134.here hx rfl (hb hby at_44) rfl (l' := #[SI p1, SI p2, SI p3, SI p4, SR b101, SI 1]) rfl (XS.aload X134.here hx rfl (hb hby at_46) rfl rfl k))))) ?_
                  show own_Fin p e below _ T134 (mkF m 48 #[SI p1, SI p2, SI p3, SI p4, SR b101, SI 1] [VR b101])
                  have F135 : Exa Z T128.heap b6_111 cC3 := (((o0_111.keep K115).keep K119).keep K128)
                  have O136 : Old Z n0 T128.heap := ((O118.keep K119 all0).keep K128 (allS u129 all0))
                  have z138 : h101.size ≤ T108.heap.size := K108.1
                  have v137 : b101 ≠ b6_111 := Nat.ne_of_lt (Nat.lt_of_lt_of_le A101.lt (Nat.le_trans z138 lob6_111))
                  have F139 : Fld Z T128.heap b6_111 cC3 "coder" "B" (VI 0) := (((o1_111.keep K115 nin0).keep K119 nin0).keep K128 (ninS (Ne.symm v137) nin0))
                  have F140 : Fld Z T128.heap b6_111 cC3 "value" "[B" (VR t22_111) := (((o2_111.keep K115 nin0).keep K119 nin0).keep K128 (ninS (Ne.symm v137) nin0))
                  have v141 : b101 ≠ t22_111 := Nat.ne_of_lt (Nat.lt_of_lt_of_le A101.lt (Nat.le_trans z138 lot22_111))
                  have F142 : Arv Z T128.heap t22_111 kb22_111 .byte 2 [VI ((nar .char (own_f19_m4 p1)).toInt8.toInt32), VI ((nar .char (own_f19_m5 p1)).toInt8.toInt32)] (VI 0) := (((o3_111.keep K115 nin0).keep K119 nin0).keep K128 (ninS (Ne.symm v141) nin0))
                  have F143 : Exa Z T128.heap b6_115 cC3 := ((o0_115.keep K119).keep K128)
                  have z145 : h101.size ≤ T111.heap.size := Nat.le_trans z138 K111.1
                  have v144 : b101 ≠ b6_115 := Nat.ne_of_lt (Nat.lt_of_lt_of_le A101.lt (Nat.le_trans z145 lob6_115))
                  have F146 : Fld Z T128.heap b6_115 cC3 "coder" "B" (VI 0) := ((o1_115.keep K119 nin0).keep K128 (ninS (Ne.symm v144) nin0))
                  have F147 : Fld Z T128.heap b6_115 cC3 "value" "[B" (VR t22_115) := ((o2_115.keep K119 nin0).keep K128 (ninS (Ne.symm v144) nin0))
                  have v148 : b101 ≠ t22_115 := Nat.ne_of_lt (Nat.lt_of_lt_of_le A101.lt (Nat.le_trans z145 lot22_115))
                  have F149 : Arv Z T128.heap t22_115 kb22_115 .byte 2 [VI ((nar .char (own_f19_m4 p2)).toInt8.toInt32), VI ((nar .char (own_f19_m5 p2)).toInt8.toInt32)] (VI 0) := ((o3_115.keep K119 nin0).keep K128 (ninS (Ne.symm v148) nin0))
                  obtain ⟨_, T150, L150, X150, hQ150, st150⟩ := own_cV X134 hx hZ119 ho119 (WW hw 52) (WW hw 53) (notFace_of_selects (args := #[]) (mvT hZ119 (WW hw 55))) (WW hw 55) (WW hw 54) (WW hw 2) (WW hw 56) (rm9_21 l Z a0 hw [] b101 b6_111 G1 t22_111 kb22_111 ((nar .char (own_f19_m4 p1)).toInt8.toInt32) ((nar .char (own_f19_m5 p1)).toInt8.toInt32) b6_115 t22_115 kb22_115 ((nar .char (own_f19_m4 p2)).toInt8.toInt32) ((nar .char (own_f19_m5 p2)).toInt8.toInt32) T128.heap n0 (Nat.le_trans Z0 z133) o2_128 F135 O_G1 O136 P_G1 F139 F140 F142 ((own_link_23_m17_8_m13 p1).2 hc6) o3_128 F143 F146 F147 F149 ((own_link_23_m17_8_m13 p2).2 hc7)) e134 o0_128 hml (g := (mkF m 48 #[SI p1, SI p2, SI p3, SI p4, SR b101, SI 1] [VR b101])) pd8 (hb hby at_48) [] [] (W := 0)
                  obtain ⟨rfl, N150q, e150⟩ := hQ150
                  have N150 := Fr.app N134 N150q
                  refine own_go st150 ?_
                  show own_Fin p e below _ T150 (mkF m 51 #[SI p1, SI p2, SI p3, SI p4, SR b101, SI 1] [VI 1])
                  refine own_go (fun _ k => XS.iload X150.here hx rfl (hb hby at_51) rfl (XS.icmpNo X150.here hx rfl (hb hby at_53) rfl (teq (by decide : (1 : Int32) = (1 : Int32))).2 (XS.iconst X150.here hx rfl (hb hby at_56) (XS.goto X150.here hx rfl (pc0 := 57) (pc' := 61) rfl (hb hby at_57) (by decide) (by decide) k)))) ?_
                  show own_Fin p e below _ T150 (mkF m 61 #[SI p1, SI p2, SI p3, SI p4, SR b101, SI 1] [VI 1])
                  have z151 : T119.heap.size ≤ T128.heap.size := K128.1
                  obtain ⟨fs, hr, hrun, hended, hend⟩ := Jvm.Stand.leaveW X150 hS119 (by rw [e150]; exact (Nat.le_trans (Nat.le_refl _) z151)) (v := some (.int (1 : Int32))) (fun h => by rw [hret] at h; cases h)
                  refine own_end (retN X150 hx (t := .boolean) hret (by simp) (hb hby at_61) hr) hrun hended ⟨_, _, rfl, ?_, hend.1, hend.2.1, hend.2.2.1, hend.2.2.2.mono (by decide) (by decide)⟩
                  show Q0 n0 _ T150.heap _
                  rw [e150]
                  exact ⟨rfl, N150⟩
            ·
              obtain ⟨_, T115, L115, X115, hQ115, st115⟩ := own_cS X111 hx hZ108 ho108 (WW hw 3) (WW hw 4) (WW hw 5) (WW hw 6) (rm1_5 l Z a0 hw [] p2 G1 T111.heap n0 (Nat.le_trans Z0 z116) hc3 hc4 hc5 O_G1 O114 P_G1) rfl hml (g := (mkF m 13 #[SI p1, SI p2, SI p3, SI p4, SU, SU] [VI p2, VR b6_111, VR r0_108, VR b101, VR b101])) pd4 (hb hby at_13) [VI p2] [VR b6_111, VR r0_108, VR b101, VR b101] (W := 4)
              obtain ⟨b6_115, t27_115, kb27_115, rfl, N115q, K115, lob6_115, lot27_115, neb6t27_115, o0_115, o1_115, o2_115, o3_115⟩ := hQ115
              have hR117 := hR113.trans (CHr.keep K115 all0 hR113.1)
              have N115 := Fr.app N111 N115q
              refine own_go st115 ?_
              show own_Fin p e below _ T115 (mkF m 16 #[SI p1, SI p2, SI p3, SI p4, SU, SU] [VR b6_115, VR b6_111, VR r0_108, VR b101, VR b101])
              refine own_go (fun _ k => XS.iloadN X115.here hx rfl (hb hby at_16) rfl k) ?_
              show own_Fin p e below _ T115 (mkF m 17 #[SI p1, SI p2, SI p3, SI p4, SU, SU] [VI p4, VR b6_115, VR b6_111, VR r0_108, VR b101, VR b101])
              have O118 : Old Z n0 T115.heap := (O114.keep K115 all0)
              have z120 : h0.size ≤ T115.heap.size := Nat.le_trans z116 K115.1
              have z121 : T108.heap.size ≤ T111.heap.size := K111.1
              have z122 : T108.heap.size ≤ T115.heap.size := Nat.le_trans z121 K115.1
              obtain ⟨_, T119, L119, X119, hQ119, hS119, hZ119, ho119, hC119, st119⟩ := own_cSH (vm0 := (s.setVm T108.vm).vm) X115 hx hZ108 ho108 hS108 (Nat.le_trans (Nat.le_refl _) z122) hEL hR117.1 (WW hw 3) (WW hw 4) (WW hw 5) (WW hw 6) (rm1_m3 l Z a0 hw [] p4 G1 T115.heap n0 (Nat.le_trans Z0 z120) O_G1 O118 P_G1) rfl hml (g := (mkF m 17 #[SI p1, SI p2, SI p3, SI p4, SU, SU] [VI p4, VR b6_115, VR b6_111, VR r0_108, VR b101, VR b101])) pd4 (hb hby at_17) [VI p4] [VR b6_115, VR b6_111, VR r0_108, VR b101, VR b101] (W := 5)
              have hR119 := hR117.trans hC119
              obtain ⟨r0_119, rfl, N119q, K119, o0_119⟩ := hQ119
              have N119 := Fr.app N115 N119q
              refine own_go st119 ?_
              show own_Fin p e below _ T119 (mkF m 20 #[SI p1, SI p2, SI p3, SI p4, SU, SU] [VR r0_119, VR b6_115, VR b6_111, VR r0_108, VR b101, VR b101])
              have F123 : Exa Z T119.heap b101 cC0 := ((((A101.keep K108).keep K111).keep K115).keep K119)
              have F124 : Fld Z T119.heap b101 cC0 "printed" cC1 (.null) := ((((F103.keep K108 nin0).keep K111 nin0).keep K115 nin0).keep K119 nin0)
              have F125 : Fld Z T119.heap b101 cC0 "article" cC1 (.null) := ((((F104.keep K108 nin0).keep K111 nin0).keep K115 nin0).keep K119 nin0)
              have F126 : Fld Z T119.heap b101 cC0 "clause" cC1 (.null) := ((((F105.keep K108 nin0).keep K111 nin0).keep K115 nin0).keep K119 nin0)
              have F127 : Fld Z T119.heap b101 cC0 "rest" cC1 (.null) := ((((F106.keep K108 nin0).keep K111 nin0).keep K115 nin0).keep K119 nin0)
              have u129 : n0 ≤ b101 := Nat.le_trans Z0 (Nat.le_of_eq g101.symm)
              have z130 : h0.size ≤ T119.heap.size := Nat.le_trans z120 K119.1
              obtain ⟨_, T128, L128, X128, hQ128, st128⟩ := own_cI X119 hx hZ119 ho119 (WW hw 32) (WW hw 33) (WW hw 2) (WW hw 34) (rm6_1 l Z a0 hw [] b101 r0_108 b6_111 b6_115 r0_119 T119.heap n0 (Nat.le_trans Z0 z130) F123 F124 u129 F125 F126 F127) rfl hml (g := (mkF m 20 #[SI p1, SI p2, SI p3, SI p4, SU, SU] [VR r0_119, VR b6_115, VR b6_111, VR r0_108, VR b101, VR b101])) pd6 (hb hby at_20) b101 [VR r0_108, VR b6_111, VR b6_115, VR r0_119] [VR b101] (W := 1)
              obtain ⟨rfl, N128q, K128, o0_128, o1_128, o2_128, o3_128, o4_128⟩ := hQ128
              have hR131 := hR119.trans (CHr.keep K128 (allS (Safe.exa (State.Warmed39.alike hZ119) F123 (by decide) (by decide)) all0) hR119.1)
              have N128 := Fr.app N119 N128q
              refine own_go st128 ?_
              show own_Fin p e below _ T128 (mkF m 23 #[SI p1, SI p2, SI p3, SI p4, SU, SU] [VR b101])
              refine own_go (fun _ k => XS.astore X128.here hx rfl (hb hby at_23) rfl rfl (l' := #[SI p1, SI p2, SI p3, SI p4, SR b101, SU]) rfl (XS.iloadN X128.here hx rfl (hb hby at_25) rfl k)) ?_
              show own_Fin p e below _ T128 (mkF m 26 #[SI p1, SI p2, SI p3, SI p4, SR b101, SU] [VI p1])
              have z133 : h0.size ≤ T128.heap.size := Nat.le_trans z130 K128.1
              obtain ⟨_, T132, L132, X132, hQ132, st132⟩ := own_cS X128 hx hZ119 ho119 (WW hw 49) (WW hw 50) (WW hw 5) (WW hw 51) (rm8_m13 l Z a0 hw [] p1 T128.heap n0 (Nat.le_trans Z0 z133) (by rw [hc2]; decide : ¬ ((((p1.toUInt32 >>> ((24 : Int32) &&& 31).toUInt32).toInt32) &&& (3 : Int32)) < (1 : Int32))) (by rw [hc2]; decide : ¬ ((((p1.toUInt32 >>> ((24 : Int32) &&& 31).toUInt32).toInt32) &&& (3 : Int32)) < (2 : Int32))) (by rw [hc2]; decide : (((p1.toUInt32 >>> ((24 : Int32) &&& 31).toUInt32).toInt32) &&& (3 : Int32)) < (3 : Int32))) rfl hml (g := (mkF m 26 #[SI p1, SI p2, SI p3, SI p4, SR b101, SU] [VI p1])) pd7 (hb hby at_26) [VI p1] [] (W := 0)
              obtain ⟨rfl, N132q, e132⟩ := hQ132
              have N132 := Fr.app N128 N132q
              refine own_go st132 ?_
              show own_Fin p e below _ T132 (mkF m 29 #[SI p1, SI p2, SI p3, SI p4, SR b101, SU] [VI (own_f8_m13 p1)])
              by_cases hc6 : (own_f8_m13 p1) = (0 : Int32)
              ·
                refine own_go (fun _ k => XS.ifYes X132.here hx rfl (pc0 := 29) (pc' := 43) rfl (hb hby at_29) rfl ((if0 _ _).trans (teq hc6).1) (by decide) (by decide) (XS.iconst X132.here hx rfl (hb hby at_43) (XS.istore X132.here hx rfl (hb hby at_44) rfl (l' := #[SI p1, SI p2, SI p3, SI p4, SR b101, SI 0]) rfl (XS.aload X132.here hx rfl (hb hby at_46) rfl rfl k)))) ?_
                show own_Fin p e below _ T132 (mkF m 48 #[SI p1, SI p2, SI p3, SI p4, SR b101, SI 0] [VR b101])
                have F134 : Exa Z T128.heap b6_111 cC3 := (((o0_111.keep K115).keep K119).keep K128)
                have O135 : Old Z n0 T128.heap := ((O118.keep K119 all0).keep K128 (allS u129 all0))
                have z137 : h101.size ≤ T108.heap.size := K108.1
                have v136 : b101 ≠ b6_111 := Nat.ne_of_lt (Nat.lt_of_lt_of_le A101.lt (Nat.le_trans z137 lob6_111))
                have F138 : Fld Z T128.heap b6_111 cC3 "coder" "B" (VI 0) := (((o1_111.keep K115 nin0).keep K119 nin0).keep K128 (ninS (Ne.symm v136) nin0))
                have F139 : Fld Z T128.heap b6_111 cC3 "value" "[B" (VR t22_111) := (((o2_111.keep K115 nin0).keep K119 nin0).keep K128 (ninS (Ne.symm v136) nin0))
                have v140 : b101 ≠ t22_111 := Nat.ne_of_lt (Nat.lt_of_lt_of_le A101.lt (Nat.le_trans z137 lot22_111))
                have F141 : Arv Z T128.heap t22_111 kb22_111 .byte 2 [VI ((nar .char (own_f19_m4 p1)).toInt8.toInt32), VI ((nar .char (own_f19_m5 p1)).toInt8.toInt32)] (VI 0) := (((o3_111.keep K115 nin0).keep K119 nin0).keep K128 (ninS (Ne.symm v140) nin0))
                obtain ⟨_, T142, L142, X142, hQ142, st142⟩ := own_cV X132 hx hZ119 ho119 (WW hw 52) (WW hw 53) (notFace_of_selects (args := #[]) (mvT hZ119 (WW hw 55))) (WW hw 55) (WW hw 54) (WW hw 2) (WW hw 56) (rm9_16 l Z a0 hw [] b101 b6_111 G1 t22_111 kb22_111 ((nar .char (own_f19_m4 p1)).toInt8.toInt32) ((nar .char (own_f19_m5 p1)).toInt8.toInt32) T128.heap n0 (Nat.le_trans Z0 z133) o2_128 F134 O_G1 O135 P_G1 F138 F139 F141 ((own_link_23_m17_8_m13 p1).1 hc6)) e132 o0_128 hml (g := (mkF m 48 #[SI p1, SI p2, SI p3, SI p4, SR b101, SI 0] [VR b101])) pd8 (hb hby at_48) [] [] (W := 0)
                obtain ⟨rfl, N142q, e142⟩ := hQ142
                have N142 := Fr.app N132 N142q
                refine own_go st142 ?_
                show own_Fin p e below _ T142 (mkF m 51 #[SI p1, SI p2, SI p3, SI p4, SR b101, SI 0] [VI 0])
                refine own_go (fun _ k => XS.iload X142.here hx rfl (hb hby at_51) rfl (XS.icmpNo X142.here hx rfl (hb hby at_53) rfl (teq (by decide : (0 : Int32) = (0 : Int32))).2 (XS.iconst X142.here hx rfl (hb hby at_56) (XS.goto X142.here hx rfl (pc0 := 57) (pc' := 61) rfl (hb hby at_57) (by decide) (by decide) k)))) ?_
                show own_Fin p e below _ T142 (mkF m 61 #[SI p1, SI p2, SI p3, SI p4, SR b101, SI 0] [VI 1])
                have z143 : T119.heap.size ≤ T128.heap.size := K128.1
                obtain ⟨fs, hr, hrun, hended, hend⟩ := Jvm.Stand.leaveW X142 hS119 (by rw [e142]; exact (Nat.le_trans (Nat.le_refl _) z143)) (v := some (.int (1 : Int32))) (fun h => by rw [hret] at h; cases h)
                refine own_end (retN X142 hx (t := .boolean) hret (by simp) (hb hby at_61) hr) hrun hended ⟨_, _, rfl, ?_, hend.1, hend.2.1, hend.2.2.1, hend.2.2.2.mono (by decide) (by decide)⟩
                show Q0 n0 _ T142.heap _
                rw [e142]
                exact ⟨rfl, N142⟩
              ·
                refine own_go (fun _ k => XS.ifNo X132.here hx rfl (hb hby at_29) rfl ((if0 _ _).trans (feq hc6).1) (XS.iloadN X132.here hx rfl (hb hby at_32) rfl k)) ?_
                show own_Fin p e below _ T132 (mkF m 33 #[SI p1, SI p2, SI p3, SI p4, SR b101, SU] [VI p2])
                obtain ⟨_, T134, L134, X134, hQ134, st134⟩ := own_cS X132 hx hZ119 ho119 (WW hw 49) (WW hw 50) (WW hw 5) (WW hw 51) (rm8_m18 l Z a0 hw [] p2 T128.heap n0 (Nat.le_trans Z0 z133) (by rw [(own_and3 ((p2.toUInt32 >>> ((24 : Int32) &&& 31).toUInt32).toInt32) hc3 hc4 hc5)]; decide : ¬ ((((p2.toUInt32 >>> ((24 : Int32) &&& 31).toUInt32).toInt32) &&& (3 : Int32)) < (1 : Int32))) (by rw [(own_and3 ((p2.toUInt32 >>> ((24 : Int32) &&& 31).toUInt32).toInt32) hc3 hc4 hc5)]; decide : ¬ ((((p2.toUInt32 >>> ((24 : Int32) &&& 31).toUInt32).toInt32) &&& (3 : Int32)) < (2 : Int32))) (by rw [(own_and3 ((p2.toUInt32 >>> ((24 : Int32) &&& 31).toUInt32).toInt32) hc3 hc4 hc5)]; decide : ¬ ((((p2.toUInt32 >>> ((24 : Int32) &&& 31).toUInt32).toInt32) &&& (3 : Int32)) < (3 : Int32)))) e132 hml (g := (mkF m 33 #[SI p1, SI p2, SI p3, SI p4, SR b101, SU] [VI p2])) pd7 (hb hby at_33) [VI p2] [] (W := 0)
                obtain ⟨rfl, N134q, e134⟩ := hQ134
                have N134 := Fr.app N132 N134q
                refine own_go st134 ?_
                show own_Fin p e below _ T134 (mkF m 36 #[SI p1, SI p2, SI p3, SI p4, SR b101, SU] [VI (own_f8_m18 p2)])
                by_cases hc7 : (own_f8_m18 p2) = (0 : Int32)
                ·
                  refine own_go (fun _ k => XS.ifYes X134.here hx rfl (pc0 := 36) (pc' := 43) rfl (hb hby at_36) rfl ((if0 _ _).trans (teq hc7).1) (by decide) (by decide) (XS.iconst X134.here hx rfl (hb hby at_43) (XS.istore X134.here hx rfl (hb hby at_44) rfl (l' := #[SI p1, SI p2, SI p3, SI p4, SR b101, SI 0]) rfl (XS.aload X134.here hx rfl (hb hby at_46) rfl rfl k)))) ?_
                  show own_Fin p e below _ T134 (mkF m 48 #[SI p1, SI p2, SI p3, SI p4, SR b101, SI 0] [VR b101])
                  have F135 : Exa Z T128.heap b6_111 cC3 := (((o0_111.keep K115).keep K119).keep K128)
                  have O136 : Old Z n0 T128.heap := ((O118.keep K119 all0).keep K128 (allS u129 all0))
                  have z138 : h101.size ≤ T108.heap.size := K108.1
                  have v137 : b101 ≠ b6_111 := Nat.ne_of_lt (Nat.lt_of_lt_of_le A101.lt (Nat.le_trans z138 lob6_111))
                  have F139 : Fld Z T128.heap b6_111 cC3 "coder" "B" (VI 0) := (((o1_111.keep K115 nin0).keep K119 nin0).keep K128 (ninS (Ne.symm v137) nin0))
                  have F140 : Fld Z T128.heap b6_111 cC3 "value" "[B" (VR t22_111) := (((o2_111.keep K115 nin0).keep K119 nin0).keep K128 (ninS (Ne.symm v137) nin0))
                  have v141 : b101 ≠ t22_111 := Nat.ne_of_lt (Nat.lt_of_lt_of_le A101.lt (Nat.le_trans z138 lot22_111))
                  have F142 : Arv Z T128.heap t22_111 kb22_111 .byte 2 [VI ((nar .char (own_f19_m4 p1)).toInt8.toInt32), VI ((nar .char (own_f19_m5 p1)).toInt8.toInt32)] (VI 0) := (((o3_111.keep K115 nin0).keep K119 nin0).keep K128 (ninS (Ne.symm v141) nin0))
                  have F143 : Exa Z T128.heap b6_115 cC3 := ((o0_115.keep K119).keep K128)
                  have z145 : h101.size ≤ T111.heap.size := Nat.le_trans z138 K111.1
                  have v144 : b101 ≠ b6_115 := Nat.ne_of_lt (Nat.lt_of_lt_of_le A101.lt (Nat.le_trans z145 lob6_115))
                  have F146 : Fld Z T128.heap b6_115 cC3 "coder" "B" (VI 0) := ((o1_115.keep K119 nin0).keep K128 (ninS (Ne.symm v144) nin0))
                  have F147 : Fld Z T128.heap b6_115 cC3 "value" "[B" (VR t27_115) := ((o2_115.keep K119 nin0).keep K128 (ninS (Ne.symm v144) nin0))
                  have v148 : b101 ≠ t27_115 := Nat.ne_of_lt (Nat.lt_of_lt_of_le A101.lt (Nat.le_trans z145 lot27_115))
                  have F149 : Arv Z T128.heap t27_115 kb27_115 .byte 3 [VI ((nar .char (own_f19_m4 p2)).toInt8.toInt32), VI ((nar .char (own_f19_m5 p2)).toInt8.toInt32), VI ((nar .char (own_f19_m6 p2)).toInt8.toInt32)] (VI 0) := ((o3_115.keep K119 nin0).keep K128 (ninS (Ne.symm v148) nin0))
                  obtain ⟨_, T150, L150, X150, hQ150, st150⟩ := own_cV X134 hx hZ119 ho119 (WW hw 52) (WW hw 53) (notFace_of_selects (args := #[]) (mvT hZ119 (WW hw 55))) (WW hw 55) (WW hw 54) (WW hw 2) (WW hw 56) (rm9_22 l Z a0 hw [] b101 b6_111 G1 t22_111 kb22_111 ((nar .char (own_f19_m4 p1)).toInt8.toInt32) ((nar .char (own_f19_m5 p1)).toInt8.toInt32) b6_115 t27_115 kb27_115 ((nar .char (own_f19_m4 p2)).toInt8.toInt32) ((nar .char (own_f19_m5 p2)).toInt8.toInt32) ((nar .char (own_f19_m6 p2)).toInt8.toInt32) T128.heap n0 (Nat.le_trans Z0 z133) o2_128 F135 O_G1 O136 P_G1 F139 F140 F142 ((own_link_23_m17_8_m13 p1).2 hc6) o3_128 F143 F146 F147 F149 ((own_link_23_m22_8_m18 p2).1 hc7)) e134 o0_128 hml (g := (mkF m 48 #[SI p1, SI p2, SI p3, SI p4, SR b101, SI 0] [VR b101])) pd8 (hb hby at_48) [] [] (W := 0)
                  obtain ⟨rfl, N150q, e150⟩ := hQ150
                  have N150 := Fr.app N134 N150q
                  refine own_go st150 ?_
                  show own_Fin p e below _ T150 (mkF m 51 #[SI p1, SI p2, SI p3, SI p4, SR b101, SI 0] [VI 0])
                  refine own_go (fun _ k => XS.iload X150.here hx rfl (hb hby at_51) rfl (XS.icmpNo X150.here hx rfl (hb hby at_53) rfl (teq (by decide : (0 : Int32) = (0 : Int32))).2 (XS.iconst X150.here hx rfl (hb hby at_56) (XS.goto X150.here hx rfl (pc0 := 57) (pc' := 61) rfl (hb hby at_57) (by decide) (by decide) k)))) ?_
                  show own_Fin p e below _ T150 (mkF m 61 #[SI p1, SI p2, SI p3, SI p4, SR b101, SI 0] [VI 1])
                  have z151 : T119.heap.size ≤ T128.heap.size := K128.1
                  obtain ⟨fs, hr, hrun, hended, hend⟩ := Jvm.Stand.leaveW X150 hS119 (by rw [e150]; exact (Nat.le_trans (Nat.le_refl _) z151)) (v := some (.int (1 : Int32))) (fun h => by rw [hret] at h; cases h)
                  refine own_end (retN X150 hx (t := .boolean) hret (by simp) (hb hby at_61) hr) hrun hended ⟨_, _, rfl, ?_, hend.1, hend.2.1, hend.2.2.1, hend.2.2.2.mono (by decide) (by decide)⟩
                  show Q0 n0 _ T150.heap _
                  rw [e150]
                  exact ⟨rfl, N150⟩
                ·
                  refine own_go (fun _ k => XS.ifNo X134.here hx rfl (hb hby at_36) rfl ((if0 _ _).trans (feq hc7).1) (XS.iconst X134.here hx rfl (hb hby at_39) (XS.goto X134.here hx rfl (pc0 := 40) (pc' := 44) rfl (hb hby at_40) (by decide) (by decide) (XS.istore X134.here hx rfl (hb hby at_44) rfl (l' := #[SI p1, SI p2, SI p3, SI p4, SR b101, SI 1]) rfl (XS.aload X134.here hx rfl (hb hby at_46) rfl rfl k))))) ?_
                  show own_Fin p e below _ T134 (mkF m 48 #[SI p1, SI p2, SI p3, SI p4, SR b101, SI 1] [VR b101])
                  have F135 : Exa Z T128.heap b6_111 cC3 := (((o0_111.keep K115).keep K119).keep K128)
                  have O136 : Old Z n0 T128.heap := ((O118.keep K119 all0).keep K128 (allS u129 all0))
                  have z138 : h101.size ≤ T108.heap.size := K108.1
                  have v137 : b101 ≠ b6_111 := Nat.ne_of_lt (Nat.lt_of_lt_of_le A101.lt (Nat.le_trans z138 lob6_111))
                  have F139 : Fld Z T128.heap b6_111 cC3 "coder" "B" (VI 0) := (((o1_111.keep K115 nin0).keep K119 nin0).keep K128 (ninS (Ne.symm v137) nin0))
                  have F140 : Fld Z T128.heap b6_111 cC3 "value" "[B" (VR t22_111) := (((o2_111.keep K115 nin0).keep K119 nin0).keep K128 (ninS (Ne.symm v137) nin0))
                  have v141 : b101 ≠ t22_111 := Nat.ne_of_lt (Nat.lt_of_lt_of_le A101.lt (Nat.le_trans z138 lot22_111))
                  have F142 : Arv Z T128.heap t22_111 kb22_111 .byte 2 [VI ((nar .char (own_f19_m4 p1)).toInt8.toInt32), VI ((nar .char (own_f19_m5 p1)).toInt8.toInt32)] (VI 0) := (((o3_111.keep K115 nin0).keep K119 nin0).keep K128 (ninS (Ne.symm v141) nin0))
                  have F143 : Exa Z T128.heap b6_115 cC3 := ((o0_115.keep K119).keep K128)
                  have z145 : h101.size ≤ T111.heap.size := Nat.le_trans z138 K111.1
                  have v144 : b101 ≠ b6_115 := Nat.ne_of_lt (Nat.lt_of_lt_of_le A101.lt (Nat.le_trans z145 lob6_115))
                  have F146 : Fld Z T128.heap b6_115 cC3 "coder" "B" (VI 0) := ((o1_115.keep K119 nin0).keep K128 (ninS (Ne.symm v144) nin0))
                  have F147 : Fld Z T128.heap b6_115 cC3 "value" "[B" (VR t27_115) := ((o2_115.keep K119 nin0).keep K128 (ninS (Ne.symm v144) nin0))
                  have v148 : b101 ≠ t27_115 := Nat.ne_of_lt (Nat.lt_of_lt_of_le A101.lt (Nat.le_trans z145 lot27_115))
                  have F149 : Arv Z T128.heap t27_115 kb27_115 .byte 3 [VI ((nar .char (own_f19_m4 p2)).toInt8.toInt32), VI ((nar .char (own_f19_m5 p2)).toInt8.toInt32), VI ((nar .char (own_f19_m6 p2)).toInt8.toInt32)] (VI 0) := ((o3_115.keep K119 nin0).keep K128 (ninS (Ne.symm v148) nin0))
                  obtain ⟨_, T150, L150, X150, hQ150, st150⟩ := own_cV X134 hx hZ119 ho119 (WW hw 52) (WW hw 53) (notFace_of_selects (args := #[]) (mvT hZ119 (WW hw 55))) (WW hw 55) (WW hw 54) (WW hw 2) (WW hw 56) (rm9_23 l Z a0 hw [] b101 b6_111 G1 t22_111 kb22_111 ((nar .char (own_f19_m4 p1)).toInt8.toInt32) ((nar .char (own_f19_m5 p1)).toInt8.toInt32) b6_115 t27_115 kb27_115 ((nar .char (own_f19_m4 p2)).toInt8.toInt32) ((nar .char (own_f19_m5 p2)).toInt8.toInt32) ((nar .char (own_f19_m6 p2)).toInt8.toInt32) T128.heap n0 (Nat.le_trans Z0 z133) o2_128 F135 O_G1 O136 P_G1 F139 F140 F142 ((own_link_23_m17_8_m13 p1).2 hc6) o3_128 F143 F146 F147 F149 ((own_link_23_m22_8_m18 p2).2 hc7)) e134 o0_128 hml (g := (mkF m 48 #[SI p1, SI p2, SI p3, SI p4, SR b101, SI 1] [VR b101])) pd8 (hb hby at_48) [] [] (W := 0)
                  obtain ⟨rfl, N150q, e150⟩ := hQ150
                  have N150 := Fr.app N134 N150q
                  refine own_go st150 ?_
                  show own_Fin p e below _ T150 (mkF m 51 #[SI p1, SI p2, SI p3, SI p4, SR b101, SI 1] [VI 1])
                  refine own_go (fun _ k => XS.iload X150.here hx rfl (hb hby at_51) rfl (XS.icmpNo X150.here hx rfl (hb hby at_53) rfl (teq (by decide : (1 : Int32) = (1 : Int32))).2 (XS.iconst X150.here hx rfl (hb hby at_56) (XS.goto X150.here hx rfl (pc0 := 57) (pc' := 61) rfl (hb hby at_57) (by decide) (by decide) k)))) ?_
                  show own_Fin p e below _ T150 (mkF m 61 #[SI p1, SI p2, SI p3, SI p4, SR b101, SI 1] [VI 1])
                  have z151 : T119.heap.size ≤ T128.heap.size := K128.1
                  obtain ⟨fs, hr, hrun, hended, hend⟩ := Jvm.Stand.leaveW X150 hS119 (by rw [e150]; exact (Nat.le_trans (Nat.le_refl _) z151)) (v := some (.int (1 : Int32))) (fun h => by rw [hret] at h; cases h)
                  refine own_end (retN X150 hx (t := .boolean) hret (by simp) (hb hby at_61) hr) hrun hended ⟨_, _, rfl, ?_, hend.1, hend.2.1, hend.2.2.1, hend.2.2.2.mono (by decide) (by decide)⟩
                  show Q0 n0 _ T150.heap _
                  rw [e150]
                  exact ⟨rfl, N150⟩
      ·
        obtain ⟨_, T111, L111, X111, hQ111, st111⟩ := own_cS X108 hx hZ108 ho108 (WW hw 3) (WW hw 4) (WW hw 5) (WW hw 6) (rm1_5 l Z a0 hw [] p1 G1 T108.heap n0 (Nat.le_trans Z0 z112) hc0 hc1 hc2 O_G1 O110 P_G1) rfl hml (g := (mkF m 9 #[SI p1, SI p2, SI p3, SI p4, SU, SU] [VI p1, VR r0_108, VR b101, VR b101])) pd4 (hb hby at_9) [VI p1] [VR r0_108, VR b101, VR b101] (W := 3)
        obtain ⟨b6_111, t27_111, kb27_111, rfl, N111q, K111, lob6_111, lot27_111, neb6t27_111, o0_111, o1_111, o2_111, o3_111⟩ := hQ111
        have hR113 := hR108.trans (CHr.keep K111 all0 hR108.1)
        have N111 := Fr.app N108 N111q
        refine own_go st111 ?_
        show own_Fin p e below _ T111 (mkF m 12 #[SI p1, SI p2, SI p3, SI p4, SU, SU] [VR b6_111, VR r0_108, VR b101, VR b101])
        refine own_go (fun _ k => XS.iloadN X111.here hx rfl (hb hby at_12) rfl k) ?_
        show own_Fin p e below _ T111 (mkF m 13 #[SI p1, SI p2, SI p3, SI p4, SU, SU] [VI p2, VR b6_111, VR r0_108, VR b101, VR b101])
        by_cases hc3 : (((p2.toUInt32 >>> ((24 : Int32) &&& 31).toUInt32).toInt32) &&& (3 : Int32)) = (0 : Int32)
        ·
          have z115 : h0.size ≤ T111.heap.size := Nat.le_trans z112 K111.1
          have z116 : T108.heap.size ≤ T111.heap.size := K111.1
          obtain ⟨_, T114, L114, X114, hQ114, hS114, hZ114, ho114, hC114, st114⟩ := own_cSH (vm0 := (s.setVm T108.vm).vm) X111 hx hZ108 ho108 hS108 (Nat.le_trans (Nat.le_refl _) z116) hEL hR113.1 (WW hw 3) (WW hw 4) (WW hw 5) (WW hw 6) (rm1_2 l Z a0 hw [] p2 T111.heap n0 (Nat.le_trans Z0 z115) hc3) rfl hml (g := (mkF m 13 #[SI p1, SI p2, SI p3, SI p4, SU, SU] [VI p2, VR b6_111, VR r0_108, VR b101, VR b101])) pd4 (hb hby at_13) [VI p2] [VR b6_111, VR r0_108, VR b101, VR b101] (W := 4)
          have hR114 := hR113.trans hC114
          obtain ⟨b4_114, b10_9_13_114, kb10_9_13_114, rfl, N114q, K114, lob4_114, o0_114, o1_114, o2_114, o3_114⟩ := hQ114
          have N114 := Fr.app N111 N114q
          refine own_go st114 ?_
          show own_Fin p e below _ T114 (mkF m 16 #[SI p1, SI p2, SI p3, SI p4, SU, SU] [VR b4_114, VR b6_111, VR r0_108, VR b101, VR b101])
          refine own_go (fun _ k => XS.iloadN X114.here hx rfl (hb hby at_16) rfl k) ?_
          show own_Fin p e below _ T114 (mkF m 17 #[SI p1, SI p2, SI p3, SI p4, SU, SU] [VI p4, VR b4_114, VR b6_111, VR r0_108, VR b101, VR b101])
          have O117 : Old Z n0 T114.heap := ((O110.keep K111 all0).keep K114 all0)
          have z119 : h0.size ≤ T114.heap.size := Nat.le_trans z115 K114.1
          obtain ⟨_, T118, L118, X118, hQ118, hS118, hZ118, ho118, hC118, st118⟩ := own_cSH (vm0 := (s.setVm T114.vm).vm) X114 hx hZ114 ho114 hS114 (Nat.le_refl _) hEL hR114.1 (WW hw 3) (WW hw 4) (WW hw 5) (WW hw 6) (rm1_m3 l Z a0 hw [] p4 G1 T114.heap n0 (Nat.le_trans Z0 z119) O_G1 O117 P_G1) rfl hml (g := (mkF m 17 #[SI p1, SI p2, SI p3, SI p4, SU, SU] [VI p4, VR b4_114, VR b6_111, VR r0_108, VR b101, VR b101])) pd4 (hb hby at_17) [VI p4] [VR b4_114, VR b6_111, VR r0_108, VR b101, VR b101] (W := 5)
          have hR118 := hR114.trans hC118
          obtain ⟨r0_118, rfl, N118q, K118, o0_118⟩ := hQ118
          have N118 := Fr.app N114 N118q
          refine own_go st118 ?_
          show own_Fin p e below _ T118 (mkF m 20 #[SI p1, SI p2, SI p3, SI p4, SU, SU] [VR r0_118, VR b4_114, VR b6_111, VR r0_108, VR b101, VR b101])
          have F120 : Exa Z T118.heap b101 cC0 := ((((A101.keep K108).keep K111).keep K114).keep K118)
          have F121 : Fld Z T118.heap b101 cC0 "printed" cC1 (.null) := ((((F103.keep K108 nin0).keep K111 nin0).keep K114 nin0).keep K118 nin0)
          have F122 : Fld Z T118.heap b101 cC0 "article" cC1 (.null) := ((((F104.keep K108 nin0).keep K111 nin0).keep K114 nin0).keep K118 nin0)
          have F123 : Fld Z T118.heap b101 cC0 "clause" cC1 (.null) := ((((F105.keep K108 nin0).keep K111 nin0).keep K114 nin0).keep K118 nin0)
          have F124 : Fld Z T118.heap b101 cC0 "rest" cC1 (.null) := ((((F106.keep K108 nin0).keep K111 nin0).keep K114 nin0).keep K118 nin0)
          have u126 : n0 ≤ b101 := Nat.le_trans Z0 (Nat.le_of_eq g101.symm)
          have z127 : h0.size ≤ T118.heap.size := Nat.le_trans z119 K118.1
          obtain ⟨_, T125, L125, X125, hQ125, st125⟩ := own_cI X118 hx hZ118 ho118 (WW hw 32) (WW hw 33) (WW hw 2) (WW hw 34) (rm6_1 l Z a0 hw [] b101 r0_108 b6_111 b4_114 r0_118 T118.heap n0 (Nat.le_trans Z0 z127) F120 F121 u126 F122 F123 F124) rfl hml (g := (mkF m 20 #[SI p1, SI p2, SI p3, SI p4, SU, SU] [VR r0_118, VR b4_114, VR b6_111, VR r0_108, VR b101, VR b101])) pd6 (hb hby at_20) b101 [VR r0_108, VR b6_111, VR b4_114, VR r0_118] [VR b101] (W := 1)
          obtain ⟨rfl, N125q, K125, o0_125, o1_125, o2_125, o3_125, o4_125⟩ := hQ125
          have hR128 := hR118.trans (CHr.keep K125 (allS (Safe.exa (State.Warmed39.alike hZ118) F120 (by decide) (by decide)) all0) hR118.1)
          have N125 := Fr.app N118 N125q
          refine own_go st125 ?_
          show own_Fin p e below _ T125 (mkF m 23 #[SI p1, SI p2, SI p3, SI p4, SU, SU] [VR b101])
          refine own_go (fun _ k => XS.astore X125.here hx rfl (hb hby at_23) rfl rfl (l' := #[SI p1, SI p2, SI p3, SI p4, SR b101, SU]) rfl (XS.iloadN X125.here hx rfl (hb hby at_25) rfl k)) ?_
          show own_Fin p e below _ T125 (mkF m 26 #[SI p1, SI p2, SI p3, SI p4, SR b101, SU] [VI p1])
          have z130 : h0.size ≤ T125.heap.size := Nat.le_trans z127 K125.1
          obtain ⟨_, T129, L129, X129, hQ129, st129⟩ := own_cS X125 hx hZ118 ho118 (WW hw 49) (WW hw 50) (WW hw 5) (WW hw 51) (rm8_m18 l Z a0 hw [] p1 T125.heap n0 (Nat.le_trans Z0 z130) (by rw [(own_and3 ((p1.toUInt32 >>> ((24 : Int32) &&& 31).toUInt32).toInt32) hc0 hc1 hc2)]; decide : ¬ ((((p1.toUInt32 >>> ((24 : Int32) &&& 31).toUInt32).toInt32) &&& (3 : Int32)) < (1 : Int32))) (by rw [(own_and3 ((p1.toUInt32 >>> ((24 : Int32) &&& 31).toUInt32).toInt32) hc0 hc1 hc2)]; decide : ¬ ((((p1.toUInt32 >>> ((24 : Int32) &&& 31).toUInt32).toInt32) &&& (3 : Int32)) < (2 : Int32))) (by rw [(own_and3 ((p1.toUInt32 >>> ((24 : Int32) &&& 31).toUInt32).toInt32) hc0 hc1 hc2)]; decide : ¬ ((((p1.toUInt32 >>> ((24 : Int32) &&& 31).toUInt32).toInt32) &&& (3 : Int32)) < (3 : Int32)))) rfl hml (g := (mkF m 26 #[SI p1, SI p2, SI p3, SI p4, SR b101, SU] [VI p1])) pd7 (hb hby at_26) [VI p1] [] (W := 0)
          obtain ⟨rfl, N129q, e129⟩ := hQ129
          have N129 := Fr.app N125 N129q
          refine own_go st129 ?_
          show own_Fin p e below _ T129 (mkF m 29 #[SI p1, SI p2, SI p3, SI p4, SR b101, SU] [VI (own_f8_m18 p1)])
          by_cases hc4 : (own_f8_m18 p1) = (0 : Int32)
          ·
            refine own_go (fun _ k => XS.ifYes X129.here hx rfl (pc0 := 29) (pc' := 43) rfl (hb hby at_29) rfl ((if0 _ _).trans (teq hc4).1) (by decide) (by decide) (XS.iconst X129.here hx rfl (hb hby at_43) (XS.istore X129.here hx rfl (hb hby at_44) rfl (l' := #[SI p1, SI p2, SI p3, SI p4, SR b101, SI 0]) rfl (XS.aload X129.here hx rfl (hb hby at_46) rfl rfl k)))) ?_
            show own_Fin p e below _ T129 (mkF m 48 #[SI p1, SI p2, SI p3, SI p4, SR b101, SI 0] [VR b101])
            have F131 : Exa Z T125.heap b6_111 cC3 := (((o0_111.keep K114).keep K118).keep K125)
            have O132 : Old Z n0 T125.heap := ((O117.keep K118 all0).keep K125 (allS u126 all0))
            have z134 : h101.size ≤ T108.heap.size := K108.1
            have v133 : b101 ≠ b6_111 := Nat.ne_of_lt (Nat.lt_of_lt_of_le A101.lt (Nat.le_trans z134 lob6_111))
            have F135 : Fld Z T125.heap b6_111 cC3 "coder" "B" (VI 0) := (((o1_111.keep K114 nin0).keep K118 nin0).keep K125 (ninS (Ne.symm v133) nin0))
            have F136 : Fld Z T125.heap b6_111 cC3 "value" "[B" (VR t27_111) := (((o2_111.keep K114 nin0).keep K118 nin0).keep K125 (ninS (Ne.symm v133) nin0))
            have v137 : b101 ≠ t27_111 := Nat.ne_of_lt (Nat.lt_of_lt_of_le A101.lt (Nat.le_trans z134 lot27_111))
            have F138 : Arv Z T125.heap t27_111 kb27_111 .byte 3 [VI ((nar .char (own_f19_m4 p1)).toInt8.toInt32), VI ((nar .char (own_f19_m5 p1)).toInt8.toInt32), VI ((nar .char (own_f19_m6 p1)).toInt8.toInt32)] (VI 0) := (((o3_111.keep K114 nin0).keep K118 nin0).keep K125 (ninS (Ne.symm v137) nin0))
            obtain ⟨_, T139, L139, X139, hQ139, st139⟩ := own_cV X129 hx hZ118 ho118 (WW hw 52) (WW hw 53) (notFace_of_selects (args := #[]) (mvT hZ118 (WW hw 55))) (WW hw 55) (WW hw 54) (WW hw 2) (WW hw 56) (rm9_24 l Z a0 hw [] b101 b6_111 G1 t27_111 kb27_111 ((nar .char (own_f19_m4 p1)).toInt8.toInt32) ((nar .char (own_f19_m5 p1)).toInt8.toInt32) ((nar .char (own_f19_m6 p1)).toInt8.toInt32) T125.heap n0 (Nat.le_trans Z0 z130) o2_125 F131 O_G1 O132 P_G1 F135 F136 F138 ((own_link_23_m22_8_m18 p1).1 hc4)) e129 o0_125 hml (g := (mkF m 48 #[SI p1, SI p2, SI p3, SI p4, SR b101, SI 0] [VR b101])) pd8 (hb hby at_48) [] [] (W := 0)
            obtain ⟨rfl, N139q, e139⟩ := hQ139
            have N139 := Fr.app N129 N139q
            refine own_go st139 ?_
            show own_Fin p e below _ T139 (mkF m 51 #[SI p1, SI p2, SI p3, SI p4, SR b101, SI 0] [VI 0])
            refine own_go (fun _ k => XS.iload X139.here hx rfl (hb hby at_51) rfl (XS.icmpNo X139.here hx rfl (hb hby at_53) rfl (teq (by decide : (0 : Int32) = (0 : Int32))).2 (XS.iconst X139.here hx rfl (hb hby at_56) (XS.goto X139.here hx rfl (pc0 := 57) (pc' := 61) rfl (hb hby at_57) (by decide) (by decide) k)))) ?_
            show own_Fin p e below _ T139 (mkF m 61 #[SI p1, SI p2, SI p3, SI p4, SR b101, SI 0] [VI 1])
            have z140 : T118.heap.size ≤ T125.heap.size := K125.1
            obtain ⟨fs, hr, hrun, hended, hend⟩ := Jvm.Stand.leaveW X139 hS118 (by rw [e139]; exact (Nat.le_trans (Nat.le_refl _) z140)) (v := some (.int (1 : Int32))) (fun h => by rw [hret] at h; cases h)
            refine own_end (retN X139 hx (t := .boolean) hret (by simp) (hb hby at_61) hr) hrun hended ⟨_, _, rfl, ?_, hend.1, hend.2.1, hend.2.2.1, hend.2.2.2.mono (by decide) (by decide)⟩
            show Q0 n0 _ T139.heap _
            rw [e139]
            exact ⟨rfl, N139⟩
          ·
            refine own_go (fun _ k => XS.ifNo X129.here hx rfl (hb hby at_29) rfl ((if0 _ _).trans (feq hc4).1) (XS.iloadN X129.here hx rfl (hb hby at_32) rfl k)) ?_
            show own_Fin p e below _ T129 (mkF m 33 #[SI p1, SI p2, SI p3, SI p4, SR b101, SU] [VI p2])
            obtain ⟨_, T131, L131, X131, hQ131, st131⟩ := own_cS X129 hx hZ118 ho118 (WW hw 49) (WW hw 50) (WW hw 5) (WW hw 51) (rm8_m7 l Z a0 hw [] p2 T125.heap n0 (Nat.le_trans Z0 z130) (by rw [hc3]; decide : (((p2.toUInt32 >>> ((24 : Int32) &&& 31).toUInt32).toInt32) &&& (3 : Int32)) < (1 : Int32)) (by rw [hc3]; decide : (((p2.toUInt32 >>> ((24 : Int32) &&& 31).toUInt32).toInt32) &&& (3 : Int32)) < (2 : Int32)) (by rw [hc3]; decide : (((p2.toUInt32 >>> ((24 : Int32) &&& 31).toUInt32).toInt32) &&& (3 : Int32)) < (3 : Int32))) e129 hml (g := (mkF m 33 #[SI p1, SI p2, SI p3, SI p4, SR b101, SU] [VI p2])) pd7 (hb hby at_33) [VI p2] [] (W := 0)
            obtain ⟨rfl, N131q, e131⟩ := hQ131
            have N131 := Fr.app N129 N131q
            refine own_go st131 ?_
            show own_Fin p e below _ T131 (mkF m 36 #[SI p1, SI p2, SI p3, SI p4, SR b101, SU] [VI 1])
            refine own_go (fun _ k => XS.ifNo X131.here hx rfl (hb hby at_36) rfl ((if0 _ _).trans (feq (by decide : ¬ ((1 : Int32) = (0 : Int32)))).1) (XS.iconst X131.here hx rfl (hb hby at_39) (XS.goto X131.here hx rfl (pc0 := 40) (pc' := 44) rfl (hb hby at_40) (by decide) (by decide) (XS.istore X131.here hx rfl (hb hby at_44) rfl (l' := #[SI p1, SI p2, SI p3, SI p4, SR b101, SI 1]) rfl (XS.aload X131.here hx rfl (hb hby at_46) rfl rfl k))))) ?_
            show own_Fin p e below _ T131 (mkF m 48 #[SI p1, SI p2, SI p3, SI p4, SR b101, SI 1] [VR b101])
            have F132 : Exa Z T125.heap b6_111 cC3 := (((o0_111.keep K114).keep K118).keep K125)
            have O133 : Old Z n0 T125.heap := ((O117.keep K118 all0).keep K125 (allS u126 all0))
            have z135 : h101.size ≤ T108.heap.size := K108.1
            have v134 : b101 ≠ b6_111 := Nat.ne_of_lt (Nat.lt_of_lt_of_le A101.lt (Nat.le_trans z135 lob6_111))
            have F136 : Fld Z T125.heap b6_111 cC3 "coder" "B" (VI 0) := (((o1_111.keep K114 nin0).keep K118 nin0).keep K125 (ninS (Ne.symm v134) nin0))
            have F137 : Fld Z T125.heap b6_111 cC3 "value" "[B" (VR t27_111) := (((o2_111.keep K114 nin0).keep K118 nin0).keep K125 (ninS (Ne.symm v134) nin0))
            have v138 : b101 ≠ t27_111 := Nat.ne_of_lt (Nat.lt_of_lt_of_le A101.lt (Nat.le_trans z135 lot27_111))
            have F139 : Arv Z T125.heap t27_111 kb27_111 .byte 3 [VI ((nar .char (own_f19_m4 p1)).toInt8.toInt32), VI ((nar .char (own_f19_m5 p1)).toInt8.toInt32), VI ((nar .char (own_f19_m6 p1)).toInt8.toInt32)] (VI 0) := (((o3_111.keep K114 nin0).keep K118 nin0).keep K125 (ninS (Ne.symm v138) nin0))
            have F140 : Exa Z T125.heap b4_114 cC3 := ((o0_114.keep K118).keep K125)
            have z142 : h101.size ≤ T111.heap.size := Nat.le_trans z135 K111.1
            have v141 : b101 ≠ b4_114 := Nat.ne_of_lt (Nat.lt_of_lt_of_le A101.lt (Nat.le_trans z142 lob4_114))
            have F143 : Fld Z T125.heap b4_114 cC3 "coder" "B" (VI 0) := ((o2_114.keep K118 nin0).keep K125 (ninS (Ne.symm v141) nin0))
            have F144 : Fld Z T125.heap b4_114 cC3 "value" "[B" (VR b10_9_13_114) := ((o1_114.keep K118 nin0).keep K125 (ninS (Ne.symm v141) nin0))
            have v145 : b101 ≠ b10_9_13_114 := Exa.neArv (((A101.keep K108).keep K111).keep K114) o3_114 (WW hw 1)
            have F146 : Arv Z T125.heap b10_9_13_114 kb10_9_13_114 .byte 0 [] (VI 0) := ((o3_114.keep K118 nin0).keep K125 (ninS (Ne.symm v145) nin0))
            obtain ⟨_, T147, L147, X147, hQ147, st147⟩ := own_cV X131 hx hZ118 ho118 (WW hw 52) (WW hw 53) (notFace_of_selects (args := #[]) (mvT hZ118 (WW hw 55))) (WW hw 55) (WW hw 54) (WW hw 2) (WW hw 56) (rm9_25 l Z a0 hw [] b101 b6_111 G1 t27_111 kb27_111 ((nar .char (own_f19_m4 p1)).toInt8.toInt32) ((nar .char (own_f19_m5 p1)).toInt8.toInt32) ((nar .char (own_f19_m6 p1)).toInt8.toInt32) b4_114 b10_9_13_114 kb10_9_13_114 T125.heap n0 (Nat.le_trans Z0 z130) o2_125 F132 O_G1 O133 P_G1 F136 F137 F139 ((own_link_23_m22_8_m18 p1).2 hc4) o3_125 F140 F143 F144 F146) e131 o0_125 hml (g := (mkF m 48 #[SI p1, SI p2, SI p3, SI p4, SR b101, SI 1] [VR b101])) pd8 (hb hby at_48) [] [] (W := 0)
            obtain ⟨rfl, N147q, e147⟩ := hQ147
            have N147 := Fr.app N131 N147q
            refine own_go st147 ?_
            show own_Fin p e below _ T147 (mkF m 51 #[SI p1, SI p2, SI p3, SI p4, SR b101, SI 1] [VI 1])
            refine own_go (fun _ k => XS.iload X147.here hx rfl (hb hby at_51) rfl (XS.icmpNo X147.here hx rfl (hb hby at_53) rfl (teq (by decide : (1 : Int32) = (1 : Int32))).2 (XS.iconst X147.here hx rfl (hb hby at_56) (XS.goto X147.here hx rfl (pc0 := 57) (pc' := 61) rfl (hb hby at_57) (by decide) (by decide) k)))) ?_
            show own_Fin p e below _ T147 (mkF m 61 #[SI p1, SI p2, SI p3, SI p4, SR b101, SI 1] [VI 1])
            have z148 : T118.heap.size ≤ T125.heap.size := K125.1
            obtain ⟨fs, hr, hrun, hended, hend⟩ := Jvm.Stand.leaveW X147 hS118 (by rw [e147]; exact (Nat.le_trans (Nat.le_refl _) z148)) (v := some (.int (1 : Int32))) (fun h => by rw [hret] at h; cases h)
            refine own_end (retN X147 hx (t := .boolean) hret (by simp) (hb hby at_61) hr) hrun hended ⟨_, _, rfl, ?_, hend.1, hend.2.1, hend.2.2.1, hend.2.2.2.mono (by decide) (by decide)⟩
            show Q0 n0 _ T147.heap _
            rw [e147]
            exact ⟨rfl, N147⟩
        ·
          have O114 : Old Z n0 T111.heap := (O110.keep K111 all0)
          have z116 : h0.size ≤ T111.heap.size := Nat.le_trans z112 K111.1
          by_cases hc4 : (((p2.toUInt32 >>> ((24 : Int32) &&& 31).toUInt32).toInt32) &&& (3 : Int32)) = (1 : Int32)
          ·
            obtain ⟨_, T115, L115, X115, hQ115, st115⟩ := own_cS X111 hx hZ108 ho108 (WW hw 3) (WW hw 4) (WW hw 5) (WW hw 6) (rm1_3 l Z a0 hw [] p2 G1 T111.heap n0 (Nat.le_trans Z0 z116) hc3 hc4 O_G1 O114 P_G1) rfl hml (g := (mkF m 13 #[SI p1, SI p2, SI p3, SI p4, SU, SU] [VI p2, VR b6_111, VR r0_108, VR b101, VR b101])) pd4 (hb hby at_13) [VI p2] [VR b6_111, VR r0_108, VR b101, VR b101] (W := 4)
            obtain ⟨b5_115, t16_115, kb16_115, rfl, N115q, K115, lob5_115, lot16_115, neb5t16_115, o0_115, o1_115, o2_115, o3_115⟩ := hQ115
            have hR117 := hR113.trans (CHr.keep K115 all0 hR113.1)
            have N115 := Fr.app N111 N115q
            refine own_go st115 ?_
            show own_Fin p e below _ T115 (mkF m 16 #[SI p1, SI p2, SI p3, SI p4, SU, SU] [VR b5_115, VR b6_111, VR r0_108, VR b101, VR b101])
            refine own_go (fun _ k => XS.iloadN X115.here hx rfl (hb hby at_16) rfl k) ?_
            show own_Fin p e below _ T115 (mkF m 17 #[SI p1, SI p2, SI p3, SI p4, SU, SU] [VI p4, VR b5_115, VR b6_111, VR r0_108, VR b101, VR b101])
            have O118 : Old Z n0 T115.heap := (O114.keep K115 all0)
            have z120 : h0.size ≤ T115.heap.size := Nat.le_trans z116 K115.1
            have z121 : T108.heap.size ≤ T111.heap.size := K111.1
            have z122 : T108.heap.size ≤ T115.heap.size := Nat.le_trans z121 K115.1
            obtain ⟨_, T119, L119, X119, hQ119, hS119, hZ119, ho119, hC119, st119⟩ := own_cSH (vm0 := (s.setVm T108.vm).vm) X115 hx hZ108 ho108 hS108 (Nat.le_trans (Nat.le_refl _) z122) hEL hR117.1 (WW hw 3) (WW hw 4) (WW hw 5) (WW hw 6) (rm1_m3 l Z a0 hw [] p4 G1 T115.heap n0 (Nat.le_trans Z0 z120) O_G1 O118 P_G1) rfl hml (g := (mkF m 17 #[SI p1, SI p2, SI p3, SI p4, SU, SU] [VI p4, VR b5_115, VR b6_111, VR r0_108, VR b101, VR b101])) pd4 (hb hby at_17) [VI p4] [VR b5_115, VR b6_111, VR r0_108, VR b101, VR b101] (W := 5)
            have hR119 := hR117.trans hC119
            obtain ⟨r0_119, rfl, N119q, K119, o0_119⟩ := hQ119
            have N119 := Fr.app N115 N119q
            refine own_go st119 ?_
            show own_Fin p e below _ T119 (mkF m 20 #[SI p1, SI p2, SI p3, SI p4, SU, SU] [VR r0_119, VR b5_115, VR b6_111, VR r0_108, VR b101, VR b101])
            have F123 : Exa Z T119.heap b101 cC0 := ((((A101.keep K108).keep K111).keep K115).keep K119)
            have F124 : Fld Z T119.heap b101 cC0 "printed" cC1 (.null) := ((((F103.keep K108 nin0).keep K111 nin0).keep K115 nin0).keep K119 nin0)
            have F125 : Fld Z T119.heap b101 cC0 "article" cC1 (.null) := ((((F104.keep K108 nin0).keep K111 nin0).keep K115 nin0).keep K119 nin0)
            have F126 : Fld Z T119.heap b101 cC0 "clause" cC1 (.null) := ((((F105.keep K108 nin0).keep K111 nin0).keep K115 nin0).keep K119 nin0)
            have F127 : Fld Z T119.heap b101 cC0 "rest" cC1 (.null) := ((((F106.keep K108 nin0).keep K111 nin0).keep K115 nin0).keep K119 nin0)
            have u129 : n0 ≤ b101 := Nat.le_trans Z0 (Nat.le_of_eq g101.symm)
            have z130 : h0.size ≤ T119.heap.size := Nat.le_trans z120 K119.1
            obtain ⟨_, T128, L128, X128, hQ128, st128⟩ := own_cI X119 hx hZ119 ho119 (WW hw 32) (WW hw 33) (WW hw 2) (WW hw 34) (rm6_1 l Z a0 hw [] b101 r0_108 b6_111 b5_115 r0_119 T119.heap n0 (Nat.le_trans Z0 z130) F123 F124 u129 F125 F126 F127) rfl hml (g := (mkF m 20 #[SI p1, SI p2, SI p3, SI p4, SU, SU] [VR r0_119, VR b5_115, VR b6_111, VR r0_108, VR b101, VR b101])) pd6 (hb hby at_20) b101 [VR r0_108, VR b6_111, VR b5_115, VR r0_119] [VR b101] (W := 1)
            obtain ⟨rfl, N128q, K128, o0_128, o1_128, o2_128, o3_128, o4_128⟩ := hQ128
            have hR131 := hR119.trans (CHr.keep K128 (allS (Safe.exa (State.Warmed39.alike hZ119) F123 (by decide) (by decide)) all0) hR119.1)
            have N128 := Fr.app N119 N128q
            refine own_go st128 ?_
            show own_Fin p e below _ T128 (mkF m 23 #[SI p1, SI p2, SI p3, SI p4, SU, SU] [VR b101])
            refine own_go (fun _ k => XS.astore X128.here hx rfl (hb hby at_23) rfl rfl (l' := #[SI p1, SI p2, SI p3, SI p4, SR b101, SU]) rfl (XS.iloadN X128.here hx rfl (hb hby at_25) rfl k)) ?_
            show own_Fin p e below _ T128 (mkF m 26 #[SI p1, SI p2, SI p3, SI p4, SR b101, SU] [VI p1])
            have z133 : h0.size ≤ T128.heap.size := Nat.le_trans z130 K128.1
            obtain ⟨_, T132, L132, X132, hQ132, st132⟩ := own_cS X128 hx hZ119 ho119 (WW hw 49) (WW hw 50) (WW hw 5) (WW hw 51) (rm8_m18 l Z a0 hw [] p1 T128.heap n0 (Nat.le_trans Z0 z133) (by rw [(own_and3 ((p1.toUInt32 >>> ((24 : Int32) &&& 31).toUInt32).toInt32) hc0 hc1 hc2)]; decide : ¬ ((((p1.toUInt32 >>> ((24 : Int32) &&& 31).toUInt32).toInt32) &&& (3 : Int32)) < (1 : Int32))) (by rw [(own_and3 ((p1.toUInt32 >>> ((24 : Int32) &&& 31).toUInt32).toInt32) hc0 hc1 hc2)]; decide : ¬ ((((p1.toUInt32 >>> ((24 : Int32) &&& 31).toUInt32).toInt32) &&& (3 : Int32)) < (2 : Int32))) (by rw [(own_and3 ((p1.toUInt32 >>> ((24 : Int32) &&& 31).toUInt32).toInt32) hc0 hc1 hc2)]; decide : ¬ ((((p1.toUInt32 >>> ((24 : Int32) &&& 31).toUInt32).toInt32) &&& (3 : Int32)) < (3 : Int32)))) rfl hml (g := (mkF m 26 #[SI p1, SI p2, SI p3, SI p4, SR b101, SU] [VI p1])) pd7 (hb hby at_26) [VI p1] [] (W := 0)
            obtain ⟨rfl, N132q, e132⟩ := hQ132
            have N132 := Fr.app N128 N132q
            refine own_go st132 ?_
            show own_Fin p e below _ T132 (mkF m 29 #[SI p1, SI p2, SI p3, SI p4, SR b101, SU] [VI (own_f8_m18 p1)])
            by_cases hc5 : (own_f8_m18 p1) = (0 : Int32)
            ·
              refine own_go (fun _ k => XS.ifYes X132.here hx rfl (pc0 := 29) (pc' := 43) rfl (hb hby at_29) rfl ((if0 _ _).trans (teq hc5).1) (by decide) (by decide) (XS.iconst X132.here hx rfl (hb hby at_43) (XS.istore X132.here hx rfl (hb hby at_44) rfl (l' := #[SI p1, SI p2, SI p3, SI p4, SR b101, SI 0]) rfl (XS.aload X132.here hx rfl (hb hby at_46) rfl rfl k)))) ?_
              show own_Fin p e below _ T132 (mkF m 48 #[SI p1, SI p2, SI p3, SI p4, SR b101, SI 0] [VR b101])
              have F134 : Exa Z T128.heap b6_111 cC3 := (((o0_111.keep K115).keep K119).keep K128)
              have O135 : Old Z n0 T128.heap := ((O118.keep K119 all0).keep K128 (allS u129 all0))
              have z137 : h101.size ≤ T108.heap.size := K108.1
              have v136 : b101 ≠ b6_111 := Nat.ne_of_lt (Nat.lt_of_lt_of_le A101.lt (Nat.le_trans z137 lob6_111))
              have F138 : Fld Z T128.heap b6_111 cC3 "coder" "B" (VI 0) := (((o1_111.keep K115 nin0).keep K119 nin0).keep K128 (ninS (Ne.symm v136) nin0))
              have F139 : Fld Z T128.heap b6_111 cC3 "value" "[B" (VR t27_111) := (((o2_111.keep K115 nin0).keep K119 nin0).keep K128 (ninS (Ne.symm v136) nin0))
              have v140 : b101 ≠ t27_111 := Nat.ne_of_lt (Nat.lt_of_lt_of_le A101.lt (Nat.le_trans z137 lot27_111))
              have F141 : Arv Z T128.heap t27_111 kb27_111 .byte 3 [VI ((nar .char (own_f19_m4 p1)).toInt8.toInt32), VI ((nar .char (own_f19_m5 p1)).toInt8.toInt32), VI ((nar .char (own_f19_m6 p1)).toInt8.toInt32)] (VI 0) := (((o3_111.keep K115 nin0).keep K119 nin0).keep K128 (ninS (Ne.symm v140) nin0))
              obtain ⟨_, T142, L142, X142, hQ142, st142⟩ := own_cV X132 hx hZ119 ho119 (WW hw 52) (WW hw 53) (notFace_of_selects (args := #[]) (mvT hZ119 (WW hw 55))) (WW hw 55) (WW hw 54) (WW hw 2) (WW hw 56) (rm9_24 l Z a0 hw [] b101 b6_111 G1 t27_111 kb27_111 ((nar .char (own_f19_m4 p1)).toInt8.toInt32) ((nar .char (own_f19_m5 p1)).toInt8.toInt32) ((nar .char (own_f19_m6 p1)).toInt8.toInt32) T128.heap n0 (Nat.le_trans Z0 z133) o2_128 F134 O_G1 O135 P_G1 F138 F139 F141 ((own_link_23_m22_8_m18 p1).1 hc5)) e132 o0_128 hml (g := (mkF m 48 #[SI p1, SI p2, SI p3, SI p4, SR b101, SI 0] [VR b101])) pd8 (hb hby at_48) [] [] (W := 0)
              obtain ⟨rfl, N142q, e142⟩ := hQ142
              have N142 := Fr.app N132 N142q
              refine own_go st142 ?_
              show own_Fin p e below _ T142 (mkF m 51 #[SI p1, SI p2, SI p3, SI p4, SR b101, SI 0] [VI 0])
              refine own_go (fun _ k => XS.iload X142.here hx rfl (hb hby at_51) rfl (XS.icmpNo X142.here hx rfl (hb hby at_53) rfl (teq (by decide : (0 : Int32) = (0 : Int32))).2 (XS.iconst X142.here hx rfl (hb hby at_56) (XS.goto X142.here hx rfl (pc0 := 57) (pc' := 61) rfl (hb hby at_57) (by decide) (by decide) k)))) ?_
              show own_Fin p e below _ T142 (mkF m 61 #[SI p1, SI p2, SI p3, SI p4, SR b101, SI 0] [VI 1])
              have z143 : T119.heap.size ≤ T128.heap.size := K128.1
              obtain ⟨fs, hr, hrun, hended, hend⟩ := Jvm.Stand.leaveW X142 hS119 (by rw [e142]; exact (Nat.le_trans (Nat.le_refl _) z143)) (v := some (.int (1 : Int32))) (fun h => by rw [hret] at h; cases h)
              refine own_end (retN X142 hx (t := .boolean) hret (by simp) (hb hby at_61) hr) hrun hended ⟨_, _, rfl, ?_, hend.1, hend.2.1, hend.2.2.1, hend.2.2.2.mono (by decide) (by decide)⟩
              show Q0 n0 _ T142.heap _
              rw [e142]
              exact ⟨rfl, N142⟩
            ·
              refine own_go (fun _ k => XS.ifNo X132.here hx rfl (hb hby at_29) rfl ((if0 _ _).trans (feq hc5).1) (XS.iloadN X132.here hx rfl (hb hby at_32) rfl k)) ?_
              show own_Fin p e below _ T132 (mkF m 33 #[SI p1, SI p2, SI p3, SI p4, SR b101, SU] [VI p2])
              obtain ⟨_, T134, L134, X134, hQ134, st134⟩ := own_cS X132 hx hZ119 ho119 (WW hw 49) (WW hw 50) (WW hw 5) (WW hw 51) (rm8_m8 l Z a0 hw [] p2 T128.heap n0 (Nat.le_trans Z0 z133) (by rw [hc4]; decide : ¬ ((((p2.toUInt32 >>> ((24 : Int32) &&& 31).toUInt32).toInt32) &&& (3 : Int32)) < (1 : Int32))) (by rw [hc4]; decide : (((p2.toUInt32 >>> ((24 : Int32) &&& 31).toUInt32).toInt32) &&& (3 : Int32)) < (2 : Int32)) (by rw [hc4]; decide : (((p2.toUInt32 >>> ((24 : Int32) &&& 31).toUInt32).toInt32) &&& (3 : Int32)) < (3 : Int32))) e132 hml (g := (mkF m 33 #[SI p1, SI p2, SI p3, SI p4, SR b101, SU] [VI p2])) pd7 (hb hby at_33) [VI p2] [] (W := 0)
              obtain ⟨rfl, N134q, e134⟩ := hQ134
              have N134 := Fr.app N132 N134q
              refine own_go st134 ?_
              show own_Fin p e below _ T134 (mkF m 36 #[SI p1, SI p2, SI p3, SI p4, SR b101, SU] [VI (own_f8_m8 p2)])
              by_cases hc6 : (own_f8_m8 p2) = (0 : Int32)
              ·
                refine own_go (fun _ k => XS.ifYes X134.here hx rfl (pc0 := 36) (pc' := 43) rfl (hb hby at_36) rfl ((if0 _ _).trans (teq hc6).1) (by decide) (by decide) (XS.iconst X134.here hx rfl (hb hby at_43) (XS.istore X134.here hx rfl (hb hby at_44) rfl (l' := #[SI p1, SI p2, SI p3, SI p4, SR b101, SI 0]) rfl (XS.aload X134.here hx rfl (hb hby at_46) rfl rfl k)))) ?_
                show own_Fin p e below _ T134 (mkF m 48 #[SI p1, SI p2, SI p3, SI p4, SR b101, SI 0] [VR b101])
                have F135 : Exa Z T128.heap b6_111 cC3 := (((o0_111.keep K115).keep K119).keep K128)
                have O136 : Old Z n0 T128.heap := ((O118.keep K119 all0).keep K128 (allS u129 all0))
                have z138 : h101.size ≤ T108.heap.size := K108.1
                have v137 : b101 ≠ b6_111 := Nat.ne_of_lt (Nat.lt_of_lt_of_le A101.lt (Nat.le_trans z138 lob6_111))
                have F139 : Fld Z T128.heap b6_111 cC3 "coder" "B" (VI 0) := (((o1_111.keep K115 nin0).keep K119 nin0).keep K128 (ninS (Ne.symm v137) nin0))
                have F140 : Fld Z T128.heap b6_111 cC3 "value" "[B" (VR t27_111) := (((o2_111.keep K115 nin0).keep K119 nin0).keep K128 (ninS (Ne.symm v137) nin0))
                have v141 : b101 ≠ t27_111 := Nat.ne_of_lt (Nat.lt_of_lt_of_le A101.lt (Nat.le_trans z138 lot27_111))
                have F142 : Arv Z T128.heap t27_111 kb27_111 .byte 3 [VI ((nar .char (own_f19_m4 p1)).toInt8.toInt32), VI ((nar .char (own_f19_m5 p1)).toInt8.toInt32), VI ((nar .char (own_f19_m6 p1)).toInt8.toInt32)] (VI 0) := (((o3_111.keep K115 nin0).keep K119 nin0).keep K128 (ninS (Ne.symm v141) nin0))
                have F143 : Exa Z T128.heap b5_115 cC3 := ((o0_115.keep K119).keep K128)
                have z145 : h101.size ≤ T111.heap.size := Nat.le_trans z138 K111.1
                have v144 : b101 ≠ b5_115 := Nat.ne_of_lt (Nat.lt_of_lt_of_le A101.lt (Nat.le_trans z145 lob5_115))
                have F146 : Fld Z T128.heap b5_115 cC3 "coder" "B" (VI 0) := ((o1_115.keep K119 nin0).keep K128 (ninS (Ne.symm v144) nin0))
                have F147 : Fld Z T128.heap b5_115 cC3 "value" "[B" (VR t16_115) := ((o2_115.keep K119 nin0).keep K128 (ninS (Ne.symm v144) nin0))
                have v148 : b101 ≠ t16_115 := Nat.ne_of_lt (Nat.lt_of_lt_of_le A101.lt (Nat.le_trans z145 lot16_115))
                have F149 : Arv Z T128.heap t16_115 kb16_115 .byte 1 [VI ((nar .char (own_f19_m4 p2)).toInt8.toInt32)] (VI 0) := ((o3_115.keep K119 nin0).keep K128 (ninS (Ne.symm v148) nin0))
                obtain ⟨_, T150, L150, X150, hQ150, st150⟩ := own_cV X134 hx hZ119 ho119 (WW hw 52) (WW hw 53) (notFace_of_selects (args := #[]) (mvT hZ119 (WW hw 55))) (WW hw 55) (WW hw 54) (WW hw 2) (WW hw 56) (rm9_26 l Z a0 hw [] b101 b6_111 G1 t27_111 kb27_111 ((nar .char (own_f19_m4 p1)).toInt8.toInt32) ((nar .char (own_f19_m5 p1)).toInt8.toInt32) ((nar .char (own_f19_m6 p1)).toInt8.toInt32) b5_115 t16_115 kb16_115 ((nar .char (own_f19_m4 p2)).toInt8.toInt32) T128.heap n0 (Nat.le_trans Z0 z133) o2_128 F135 O_G1 O136 P_G1 F139 F140 F142 ((own_link_23_m22_8_m18 p1).2 hc5) o3_128 F143 F146 F147 F149 ((own_link_23_m12_8_m8 p2).1 hc6)) e134 o0_128 hml (g := (mkF m 48 #[SI p1, SI p2, SI p3, SI p4, SR b101, SI 0] [VR b101])) pd8 (hb hby at_48) [] [] (W := 0)
                obtain ⟨rfl, N150q, e150⟩ := hQ150
                have N150 := Fr.app N134 N150q
                refine own_go st150 ?_
                show own_Fin p e below _ T150 (mkF m 51 #[SI p1, SI p2, SI p3, SI p4, SR b101, SI 0] [VI 0])
                refine own_go (fun _ k => XS.iload X150.here hx rfl (hb hby at_51) rfl (XS.icmpNo X150.here hx rfl (hb hby at_53) rfl (teq (by decide : (0 : Int32) = (0 : Int32))).2 (XS.iconst X150.here hx rfl (hb hby at_56) (XS.goto X150.here hx rfl (pc0 := 57) (pc' := 61) rfl (hb hby at_57) (by decide) (by decide) k)))) ?_
                show own_Fin p e below _ T150 (mkF m 61 #[SI p1, SI p2, SI p3, SI p4, SR b101, SI 0] [VI 1])
                have z151 : T119.heap.size ≤ T128.heap.size := K128.1
                obtain ⟨fs, hr, hrun, hended, hend⟩ := Jvm.Stand.leaveW X150 hS119 (by rw [e150]; exact (Nat.le_trans (Nat.le_refl _) z151)) (v := some (.int (1 : Int32))) (fun h => by rw [hret] at h; cases h)
                refine own_end (retN X150 hx (t := .boolean) hret (by simp) (hb hby at_61) hr) hrun hended ⟨_, _, rfl, ?_, hend.1, hend.2.1, hend.2.2.1, hend.2.2.2.mono (by decide) (by decide)⟩
                show Q0 n0 _ T150.heap _
                rw [e150]
                exact ⟨rfl, N150⟩
              ·
                refine own_go (fun _ k => XS.ifNo X134.here hx rfl (hb hby at_36) rfl ((if0 _ _).trans (feq hc6).1) (XS.iconst X134.here hx rfl (hb hby at_39) (XS.goto X134.here hx rfl (pc0 := 40) (pc' := 44) rfl (hb hby at_40) (by decide) (by decide) (XS.istore X134.here hx rfl (hb hby at_44) rfl (l' := #[SI p1, SI p2, SI p3, SI p4, SR b101, SI 1]) rfl (XS.aload X134.here hx rfl (hb hby at_46) rfl rfl k))))) ?_
                show own_Fin p e below _ T134 (mkF m 48 #[SI p1, SI p2, SI p3, SI p4, SR b101, SI 1] [VR b101])
                have F135 : Exa Z T128.heap b6_111 cC3 := (((o0_111.keep K115).keep K119).keep K128)
                have O136 : Old Z n0 T128.heap := ((O118.keep K119 all0).keep K128 (allS u129 all0))
                have z138 : h101.size ≤ T108.heap.size := K108.1
                have v137 : b101 ≠ b6_111 := Nat.ne_of_lt (Nat.lt_of_lt_of_le A101.lt (Nat.le_trans z138 lob6_111))
                have F139 : Fld Z T128.heap b6_111 cC3 "coder" "B" (VI 0) := (((o1_111.keep K115 nin0).keep K119 nin0).keep K128 (ninS (Ne.symm v137) nin0))
                have F140 : Fld Z T128.heap b6_111 cC3 "value" "[B" (VR t27_111) := (((o2_111.keep K115 nin0).keep K119 nin0).keep K128 (ninS (Ne.symm v137) nin0))
                have v141 : b101 ≠ t27_111 := Nat.ne_of_lt (Nat.lt_of_lt_of_le A101.lt (Nat.le_trans z138 lot27_111))
                have F142 : Arv Z T128.heap t27_111 kb27_111 .byte 3 [VI ((nar .char (own_f19_m4 p1)).toInt8.toInt32), VI ((nar .char (own_f19_m5 p1)).toInt8.toInt32), VI ((nar .char (own_f19_m6 p1)).toInt8.toInt32)] (VI 0) := (((o3_111.keep K115 nin0).keep K119 nin0).keep K128 (ninS (Ne.symm v141) nin0))
                have F143 : Exa Z T128.heap b5_115 cC3 := ((o0_115.keep K119).keep K128)
                have z145 : h101.size ≤ T111.heap.size := Nat.le_trans z138 K111.1
                have v144 : b101 ≠ b5_115 := Nat.ne_of_lt (Nat.lt_of_lt_of_le A101.lt (Nat.le_trans z145 lob5_115))
                have F146 : Fld Z T128.heap b5_115 cC3 "coder" "B" (VI 0) := ((o1_115.keep K119 nin0).keep K128 (ninS (Ne.symm v144) nin0))
                have F147 : Fld Z T128.heap b5_115 cC3 "value" "[B" (VR t16_115) := ((o2_115.keep K119 nin0).keep K128 (ninS (Ne.symm v144) nin0))
                have v148 : b101 ≠ t16_115 := Nat.ne_of_lt (Nat.lt_of_lt_of_le A101.lt (Nat.le_trans z145 lot16_115))
                have F149 : Arv Z T128.heap t16_115 kb16_115 .byte 1 [VI ((nar .char (own_f19_m4 p2)).toInt8.toInt32)] (VI 0) := ((o3_115.keep K119 nin0).keep K128 (ninS (Ne.symm v148) nin0))
                obtain ⟨_, T150, L150, X150, hQ150, st150⟩ := own_cV X134 hx hZ119 ho119 (WW hw 52) (WW hw 53) (notFace_of_selects (args := #[]) (mvT hZ119 (WW hw 55))) (WW hw 55) (WW hw 54) (WW hw 2) (WW hw 56) (rm9_27 l Z a0 hw [] b101 b6_111 G1 t27_111 kb27_111 ((nar .char (own_f19_m4 p1)).toInt8.toInt32) ((nar .char (own_f19_m5 p1)).toInt8.toInt32) ((nar .char (own_f19_m6 p1)).toInt8.toInt32) b5_115 t16_115 kb16_115 ((nar .char (own_f19_m4 p2)).toInt8.toInt32) T128.heap n0 (Nat.le_trans Z0 z133) o2_128 F135 O_G1 O136 P_G1 F139 F140 F142 ((own_link_23_m22_8_m18 p1).2 hc5) o3_128 F143 F146 F147 F149 ((own_link_23_m12_8_m8 p2).2 hc6)) e134 o0_128 hml (g := (mkF m 48 #[SI p1, SI p2, SI p3, SI p4, SR b101, SI 1] [VR b101])) pd8 (hb hby at_48) [] [] (W := 0)
                obtain ⟨rfl, N150q, e150⟩ := hQ150
                have N150 := Fr.app N134 N150q
                refine own_go st150 ?_
                show own_Fin p e below _ T150 (mkF m 51 #[SI p1, SI p2, SI p3, SI p4, SR b101, SI 1] [VI 1])
                refine own_go (fun _ k => XS.iload X150.here hx rfl (hb hby at_51) rfl (XS.icmpNo X150.here hx rfl (hb hby at_53) rfl (teq (by decide : (1 : Int32) = (1 : Int32))).2 (XS.iconst X150.here hx rfl (hb hby at_56) (XS.goto X150.here hx rfl (pc0 := 57) (pc' := 61) rfl (hb hby at_57) (by decide) (by decide) k)))) ?_
                show own_Fin p e below _ T150 (mkF m 61 #[SI p1, SI p2, SI p3, SI p4, SR b101, SI 1] [VI 1])
                have z151 : T119.heap.size ≤ T128.heap.size := K128.1
                obtain ⟨fs, hr, hrun, hended, hend⟩ := Jvm.Stand.leaveW X150 hS119 (by rw [e150]; exact (Nat.le_trans (Nat.le_refl _) z151)) (v := some (.int (1 : Int32))) (fun h => by rw [hret] at h; cases h)
                refine own_end (retN X150 hx (t := .boolean) hret (by simp) (hb hby at_61) hr) hrun hended ⟨_, _, rfl, ?_, hend.1, hend.2.1, hend.2.2.1, hend.2.2.2.mono (by decide) (by decide)⟩
                show Q0 n0 _ T150.heap _
                rw [e150]
                exact ⟨rfl, N150⟩
          ·
            by_cases hc5 : (((p2.toUInt32 >>> ((24 : Int32) &&& 31).toUInt32).toInt32) &&& (3 : Int32)) = (2 : Int32)
            ·
              obtain ⟨_, T115, L115, X115, hQ115, st115⟩ := own_cS X111 hx hZ108 ho108 (WW hw 3) (WW hw 4) (WW hw 5) (WW hw 6) (rm1_4 l Z a0 hw [] p2 G1 T111.heap n0 (Nat.le_trans Z0 z116) hc3 hc4 hc5 O_G1 O114 P_G1) rfl hml (g := (mkF m 13 #[SI p1, SI p2, SI p3, SI p4, SU, SU] [VI p2, VR b6_111, VR r0_108, VR b101, VR b101])) pd4 (hb hby at_13) [VI p2] [VR b6_111, VR r0_108, VR b101, VR b101] (W := 4)
              obtain ⟨b6_115, t22_115, kb22_115, rfl, N115q, K115, lob6_115, lot22_115, neb6t22_115, o0_115, o1_115, o2_115, o3_115⟩ := hQ115
              have hR117 := hR113.trans (CHr.keep K115 all0 hR113.1)
              have N115 := Fr.app N111 N115q
              refine own_go st115 ?_
              show own_Fin p e below _ T115 (mkF m 16 #[SI p1, SI p2, SI p3, SI p4, SU, SU] [VR b6_115, VR b6_111, VR r0_108, VR b101, VR b101])
              refine own_go (fun _ k => XS.iloadN X115.here hx rfl (hb hby at_16) rfl k) ?_
              show own_Fin p e below _ T115 (mkF m 17 #[SI p1, SI p2, SI p3, SI p4, SU, SU] [VI p4, VR b6_115, VR b6_111, VR r0_108, VR b101, VR b101])
              have O118 : Old Z n0 T115.heap := (O114.keep K115 all0)
              have z120 : h0.size ≤ T115.heap.size := Nat.le_trans z116 K115.1
              have z121 : T108.heap.size ≤ T111.heap.size := K111.1
              have z122 : T108.heap.size ≤ T115.heap.size := Nat.le_trans z121 K115.1
              obtain ⟨_, T119, L119, X119, hQ119, hS119, hZ119, ho119, hC119, st119⟩ := own_cSH (vm0 := (s.setVm T108.vm).vm) X115 hx hZ108 ho108 hS108 (Nat.le_trans (Nat.le_refl _) z122) hEL hR117.1 (WW hw 3) (WW hw 4) (WW hw 5) (WW hw 6) (rm1_m3 l Z a0 hw [] p4 G1 T115.heap n0 (Nat.le_trans Z0 z120) O_G1 O118 P_G1) rfl hml (g := (mkF m 17 #[SI p1, SI p2, SI p3, SI p4, SU, SU] [VI p4, VR b6_115, VR b6_111, VR r0_108, VR b101, VR b101])) pd4 (hb hby at_17) [VI p4] [VR b6_115, VR b6_111, VR r0_108, VR b101, VR b101] (W := 5)
              have hR119 := hR117.trans hC119
              obtain ⟨r0_119, rfl, N119q, K119, o0_119⟩ := hQ119
              have N119 := Fr.app N115 N119q
              refine own_go st119 ?_
              show own_Fin p e below _ T119 (mkF m 20 #[SI p1, SI p2, SI p3, SI p4, SU, SU] [VR r0_119, VR b6_115, VR b6_111, VR r0_108, VR b101, VR b101])
              have F123 : Exa Z T119.heap b101 cC0 := ((((A101.keep K108).keep K111).keep K115).keep K119)
              have F124 : Fld Z T119.heap b101 cC0 "printed" cC1 (.null) := ((((F103.keep K108 nin0).keep K111 nin0).keep K115 nin0).keep K119 nin0)
              have F125 : Fld Z T119.heap b101 cC0 "article" cC1 (.null) := ((((F104.keep K108 nin0).keep K111 nin0).keep K115 nin0).keep K119 nin0)
              have F126 : Fld Z T119.heap b101 cC0 "clause" cC1 (.null) := ((((F105.keep K108 nin0).keep K111 nin0).keep K115 nin0).keep K119 nin0)
              have F127 : Fld Z T119.heap b101 cC0 "rest" cC1 (.null) := ((((F106.keep K108 nin0).keep K111 nin0).keep K115 nin0).keep K119 nin0)
              have u129 : n0 ≤ b101 := Nat.le_trans Z0 (Nat.le_of_eq g101.symm)
              have z130 : h0.size ≤ T119.heap.size := Nat.le_trans z120 K119.1
              obtain ⟨_, T128, L128, X128, hQ128, st128⟩ := own_cI X119 hx hZ119 ho119 (WW hw 32) (WW hw 33) (WW hw 2) (WW hw 34) (rm6_1 l Z a0 hw [] b101 r0_108 b6_111 b6_115 r0_119 T119.heap n0 (Nat.le_trans Z0 z130) F123 F124 u129 F125 F126 F127) rfl hml (g := (mkF m 20 #[SI p1, SI p2, SI p3, SI p4, SU, SU] [VR r0_119, VR b6_115, VR b6_111, VR r0_108, VR b101, VR b101])) pd6 (hb hby at_20) b101 [VR r0_108, VR b6_111, VR b6_115, VR r0_119] [VR b101] (W := 1)
              obtain ⟨rfl, N128q, K128, o0_128, o1_128, o2_128, o3_128, o4_128⟩ := hQ128
              have hR131 := hR119.trans (CHr.keep K128 (allS (Safe.exa (State.Warmed39.alike hZ119) F123 (by decide) (by decide)) all0) hR119.1)
              have N128 := Fr.app N119 N128q
              refine own_go st128 ?_
              show own_Fin p e below _ T128 (mkF m 23 #[SI p1, SI p2, SI p3, SI p4, SU, SU] [VR b101])
              refine own_go (fun _ k => XS.astore X128.here hx rfl (hb hby at_23) rfl rfl (l' := #[SI p1, SI p2, SI p3, SI p4, SR b101, SU]) rfl (XS.iloadN X128.here hx rfl (hb hby at_25) rfl k)) ?_
              show own_Fin p e below _ T128 (mkF m 26 #[SI p1, SI p2, SI p3, SI p4, SR b101, SU] [VI p1])
              have z133 : h0.size ≤ T128.heap.size := Nat.le_trans z130 K128.1
              obtain ⟨_, T132, L132, X132, hQ132, st132⟩ := own_cS X128 hx hZ119 ho119 (WW hw 49) (WW hw 50) (WW hw 5) (WW hw 51) (rm8_m18 l Z a0 hw [] p1 T128.heap n0 (Nat.le_trans Z0 z133) (by rw [(own_and3 ((p1.toUInt32 >>> ((24 : Int32) &&& 31).toUInt32).toInt32) hc0 hc1 hc2)]; decide : ¬ ((((p1.toUInt32 >>> ((24 : Int32) &&& 31).toUInt32).toInt32) &&& (3 : Int32)) < (1 : Int32))) (by rw [(own_and3 ((p1.toUInt32 >>> ((24 : Int32) &&& 31).toUInt32).toInt32) hc0 hc1 hc2)]; decide : ¬ ((((p1.toUInt32 >>> ((24 : Int32) &&& 31).toUInt32).toInt32) &&& (3 : Int32)) < (2 : Int32))) (by rw [(own_and3 ((p1.toUInt32 >>> ((24 : Int32) &&& 31).toUInt32).toInt32) hc0 hc1 hc2)]; decide : ¬ ((((p1.toUInt32 >>> ((24 : Int32) &&& 31).toUInt32).toInt32) &&& (3 : Int32)) < (3 : Int32)))) rfl hml (g := (mkF m 26 #[SI p1, SI p2, SI p3, SI p4, SR b101, SU] [VI p1])) pd7 (hb hby at_26) [VI p1] [] (W := 0)
              obtain ⟨rfl, N132q, e132⟩ := hQ132
              have N132 := Fr.app N128 N132q
              refine own_go st132 ?_
              show own_Fin p e below _ T132 (mkF m 29 #[SI p1, SI p2, SI p3, SI p4, SR b101, SU] [VI (own_f8_m18 p1)])
              by_cases hc6 : (own_f8_m18 p1) = (0 : Int32)
              ·
                refine own_go (fun _ k => XS.ifYes X132.here hx rfl (pc0 := 29) (pc' := 43) rfl (hb hby at_29) rfl ((if0 _ _).trans (teq hc6).1) (by decide) (by decide) (XS.iconst X132.here hx rfl (hb hby at_43) (XS.istore X132.here hx rfl (hb hby at_44) rfl (l' := #[SI p1, SI p2, SI p3, SI p4, SR b101, SI 0]) rfl (XS.aload X132.here hx rfl (hb hby at_46) rfl rfl k)))) ?_
                show own_Fin p e below _ T132 (mkF m 48 #[SI p1, SI p2, SI p3, SI p4, SR b101, SI 0] [VR b101])
                have F134 : Exa Z T128.heap b6_111 cC3 := (((o0_111.keep K115).keep K119).keep K128)
                have O135 : Old Z n0 T128.heap := ((O118.keep K119 all0).keep K128 (allS u129 all0))
                have z137 : h101.size ≤ T108.heap.size := K108.1
                have v136 : b101 ≠ b6_111 := Nat.ne_of_lt (Nat.lt_of_lt_of_le A101.lt (Nat.le_trans z137 lob6_111))
                have F138 : Fld Z T128.heap b6_111 cC3 "coder" "B" (VI 0) := (((o1_111.keep K115 nin0).keep K119 nin0).keep K128 (ninS (Ne.symm v136) nin0))
                have F139 : Fld Z T128.heap b6_111 cC3 "value" "[B" (VR t27_111) := (((o2_111.keep K115 nin0).keep K119 nin0).keep K128 (ninS (Ne.symm v136) nin0))
                have v140 : b101 ≠ t27_111 := Nat.ne_of_lt (Nat.lt_of_lt_of_le A101.lt (Nat.le_trans z137 lot27_111))
                have F141 : Arv Z T128.heap t27_111 kb27_111 .byte 3 [VI ((nar .char (own_f19_m4 p1)).toInt8.toInt32), VI ((nar .char (own_f19_m5 p1)).toInt8.toInt32), VI ((nar .char (own_f19_m6 p1)).toInt8.toInt32)] (VI 0) := (((o3_111.keep K115 nin0).keep K119 nin0).keep K128 (ninS (Ne.symm v140) nin0))
                obtain ⟨_, T142, L142, X142, hQ142, st142⟩ := own_cV X132 hx hZ119 ho119 (WW hw 52) (WW hw 53) (notFace_of_selects (args := #[]) (mvT hZ119 (WW hw 55))) (WW hw 55) (WW hw 54) (WW hw 2) (WW hw 56) (rm9_24 l Z a0 hw [] b101 b6_111 G1 t27_111 kb27_111 ((nar .char (own_f19_m4 p1)).toInt8.toInt32) ((nar .char (own_f19_m5 p1)).toInt8.toInt32) ((nar .char (own_f19_m6 p1)).toInt8.toInt32) T128.heap n0 (Nat.le_trans Z0 z133) o2_128 F134 O_G1 O135 P_G1 F138 F139 F141 ((own_link_23_m22_8_m18 p1).1 hc6)) e132 o0_128 hml (g := (mkF m 48 #[SI p1, SI p2, SI p3, SI p4, SR b101, SI 0] [VR b101])) pd8 (hb hby at_48) [] [] (W := 0)
                obtain ⟨rfl, N142q, e142⟩ := hQ142
                have N142 := Fr.app N132 N142q
                refine own_go st142 ?_
                show own_Fin p e below _ T142 (mkF m 51 #[SI p1, SI p2, SI p3, SI p4, SR b101, SI 0] [VI 0])
                refine own_go (fun _ k => XS.iload X142.here hx rfl (hb hby at_51) rfl (XS.icmpNo X142.here hx rfl (hb hby at_53) rfl (teq (by decide : (0 : Int32) = (0 : Int32))).2 (XS.iconst X142.here hx rfl (hb hby at_56) (XS.goto X142.here hx rfl (pc0 := 57) (pc' := 61) rfl (hb hby at_57) (by decide) (by decide) k)))) ?_
                show own_Fin p e below _ T142 (mkF m 61 #[SI p1, SI p2, SI p3, SI p4, SR b101, SI 0] [VI 1])
                have z143 : T119.heap.size ≤ T128.heap.size := K128.1
                obtain ⟨fs, hr, hrun, hended, hend⟩ := Jvm.Stand.leaveW X142 hS119 (by rw [e142]; exact (Nat.le_trans (Nat.le_refl _) z143)) (v := some (.int (1 : Int32))) (fun h => by rw [hret] at h; cases h)
                refine own_end (retN X142 hx (t := .boolean) hret (by simp) (hb hby at_61) hr) hrun hended ⟨_, _, rfl, ?_, hend.1, hend.2.1, hend.2.2.1, hend.2.2.2.mono (by decide) (by decide)⟩
                show Q0 n0 _ T142.heap _
                rw [e142]
                exact ⟨rfl, N142⟩
              ·
                refine own_go (fun _ k => XS.ifNo X132.here hx rfl (hb hby at_29) rfl ((if0 _ _).trans (feq hc6).1) (XS.iloadN X132.here hx rfl (hb hby at_32) rfl k)) ?_
                show own_Fin p e below _ T132 (mkF m 33 #[SI p1, SI p2, SI p3, SI p4, SR b101, SU] [VI p2])
                obtain ⟨_, T134, L134, X134, hQ134, st134⟩ := own_cS X132 hx hZ119 ho119 (WW hw 49) (WW hw 50) (WW hw 5) (WW hw 51) (rm8_m13 l Z a0 hw [] p2 T128.heap n0 (Nat.le_trans Z0 z133) (by rw [hc5]; decide : ¬ ((((p2.toUInt32 >>> ((24 : Int32) &&& 31).toUInt32).toInt32) &&& (3 : Int32)) < (1 : Int32))) (by rw [hc5]; decide : ¬ ((((p2.toUInt32 >>> ((24 : Int32) &&& 31).toUInt32).toInt32) &&& (3 : Int32)) < (2 : Int32))) (by rw [hc5]; decide : (((p2.toUInt32 >>> ((24 : Int32) &&& 31).toUInt32).toInt32) &&& (3 : Int32)) < (3 : Int32))) e132 hml (g := (mkF m 33 #[SI p1, SI p2, SI p3, SI p4, SR b101, SU] [VI p2])) pd7 (hb hby at_33) [VI p2] [] (W := 0)
                obtain ⟨rfl, N134q, e134⟩ := hQ134
                have N134 := Fr.app N132 N134q
                refine own_go st134 ?_
                show own_Fin p e below _ T134 (mkF m 36 #[SI p1, SI p2, SI p3, SI p4, SR b101, SU] [VI (own_f8_m13 p2)])
                by_cases hc7 : (own_f8_m13 p2) = (0 : Int32)
                ·
                  refine own_go (fun _ k => XS.ifYes X134.here hx rfl (pc0 := 36) (pc' := 43) rfl (hb hby at_36) rfl ((if0 _ _).trans (teq hc7).1) (by decide) (by decide) (XS.iconst X134.here hx rfl (hb hby at_43) (XS.istore X134.here hx rfl (hb hby at_44) rfl (l' := #[SI p1, SI p2, SI p3, SI p4, SR b101, SI 0]) rfl (XS.aload X134.here hx rfl (hb hby at_46) rfl rfl k)))) ?_
                  show own_Fin p e below _ T134 (mkF m 48 #[SI p1, SI p2, SI p3, SI p4, SR b101, SI 0] [VR b101])
                  have F135 : Exa Z T128.heap b6_111 cC3 := (((o0_111.keep K115).keep K119).keep K128)
                  have O136 : Old Z n0 T128.heap := ((O118.keep K119 all0).keep K128 (allS u129 all0))
                  have z138 : h101.size ≤ T108.heap.size := K108.1
                  have v137 : b101 ≠ b6_111 := Nat.ne_of_lt (Nat.lt_of_lt_of_le A101.lt (Nat.le_trans z138 lob6_111))
                  have F139 : Fld Z T128.heap b6_111 cC3 "coder" "B" (VI 0) := (((o1_111.keep K115 nin0).keep K119 nin0).keep K128 (ninS (Ne.symm v137) nin0))
                  have F140 : Fld Z T128.heap b6_111 cC3 "value" "[B" (VR t27_111) := (((o2_111.keep K115 nin0).keep K119 nin0).keep K128 (ninS (Ne.symm v137) nin0))
                  have v141 : b101 ≠ t27_111 := Nat.ne_of_lt (Nat.lt_of_lt_of_le A101.lt (Nat.le_trans z138 lot27_111))
                  have F142 : Arv Z T128.heap t27_111 kb27_111 .byte 3 [VI ((nar .char (own_f19_m4 p1)).toInt8.toInt32), VI ((nar .char (own_f19_m5 p1)).toInt8.toInt32), VI ((nar .char (own_f19_m6 p1)).toInt8.toInt32)] (VI 0) := (((o3_111.keep K115 nin0).keep K119 nin0).keep K128 (ninS (Ne.symm v141) nin0))
                  have F143 : Exa Z T128.heap b6_115 cC3 := ((o0_115.keep K119).keep K128)
                  have z145 : h101.size ≤ T111.heap.size := Nat.le_trans z138 K111.1
                  have v144 : b101 ≠ b6_115 := Nat.ne_of_lt (Nat.lt_of_lt_of_le A101.lt (Nat.le_trans z145 lob6_115))
                  have F146 : Fld Z T128.heap b6_115 cC3 "coder" "B" (VI 0) := ((o1_115.keep K119 nin0).keep K128 (ninS (Ne.symm v144) nin0))
                  have F147 : Fld Z T128.heap b6_115 cC3 "value" "[B" (VR t22_115) := ((o2_115.keep K119 nin0).keep K128 (ninS (Ne.symm v144) nin0))
                  have v148 : b101 ≠ t22_115 := Nat.ne_of_lt (Nat.lt_of_lt_of_le A101.lt (Nat.le_trans z145 lot22_115))
                  have F149 : Arv Z T128.heap t22_115 kb22_115 .byte 2 [VI ((nar .char (own_f19_m4 p2)).toInt8.toInt32), VI ((nar .char (own_f19_m5 p2)).toInt8.toInt32)] (VI 0) := ((o3_115.keep K119 nin0).keep K128 (ninS (Ne.symm v148) nin0))
                  obtain ⟨_, T150, L150, X150, hQ150, st150⟩ := own_cV X134 hx hZ119 ho119 (WW hw 52) (WW hw 53) (notFace_of_selects (args := #[]) (mvT hZ119 (WW hw 55))) (WW hw 55) (WW hw 54) (WW hw 2) (WW hw 56) (rm9_28 l Z a0 hw [] b101 b6_111 G1 t27_111 kb27_111 ((nar .char (own_f19_m4 p1)).toInt8.toInt32) ((nar .char (own_f19_m5 p1)).toInt8.toInt32) ((nar .char (own_f19_m6 p1)).toInt8.toInt32) b6_115 t22_115 kb22_115 ((nar .char (own_f19_m4 p2)).toInt8.toInt32) ((nar .char (own_f19_m5 p2)).toInt8.toInt32) T128.heap n0 (Nat.le_trans Z0 z133) o2_128 F135 O_G1 O136 P_G1 F139 F140 F142 ((own_link_23_m22_8_m18 p1).2 hc6) o3_128 F143 F146 F147 F149 ((own_link_23_m17_8_m13 p2).1 hc7)) e134 o0_128 hml (g := (mkF m 48 #[SI p1, SI p2, SI p3, SI p4, SR b101, SI 0] [VR b101])) pd8 (hb hby at_48) [] [] (W := 0)
                  obtain ⟨rfl, N150q, e150⟩ := hQ150
                  have N150 := Fr.app N134 N150q
                  refine own_go st150 ?_
                  show own_Fin p e below _ T150 (mkF m 51 #[SI p1, SI p2, SI p3, SI p4, SR b101, SI 0] [VI 0])
                  refine own_go (fun _ k => XS.iload X150.here hx rfl (hb hby at_51) rfl (XS.icmpNo X150.here hx rfl (hb hby at_53) rfl (teq (by decide : (0 : Int32) = (0 : Int32))).2 (XS.iconst X150.here hx rfl (hb hby at_56) (XS.goto X150.here hx rfl (pc0 := 57) (pc' := 61) rfl (hb hby at_57) (by decide) (by decide) k)))) ?_
                  show own_Fin p e below _ T150 (mkF m 61 #[SI p1, SI p2, SI p3, SI p4, SR b101, SI 0] [VI 1])
                  have z151 : T119.heap.size ≤ T128.heap.size := K128.1
                  obtain ⟨fs, hr, hrun, hended, hend⟩ := Jvm.Stand.leaveW X150 hS119 (by rw [e150]; exact (Nat.le_trans (Nat.le_refl _) z151)) (v := some (.int (1 : Int32))) (fun h => by rw [hret] at h; cases h)
                  refine own_end (retN X150 hx (t := .boolean) hret (by simp) (hb hby at_61) hr) hrun hended ⟨_, _, rfl, ?_, hend.1, hend.2.1, hend.2.2.1, hend.2.2.2.mono (by decide) (by decide)⟩
                  show Q0 n0 _ T150.heap _
                  rw [e150]
                  exact ⟨rfl, N150⟩
                ·
                  refine own_go (fun _ k => XS.ifNo X134.here hx rfl (hb hby at_36) rfl ((if0 _ _).trans (feq hc7).1) (XS.iconst X134.here hx rfl (hb hby at_39) (XS.goto X134.here hx rfl (pc0 := 40) (pc' := 44) rfl (hb hby at_40) (by decide) (by decide) (XS.istore X134.here hx rfl (hb hby at_44) rfl (l' := #[SI p1, SI p2, SI p3, SI p4, SR b101, SI 1]) rfl (XS.aload X134.here hx rfl (hb hby at_46) rfl rfl k))))) ?_
                  show own_Fin p e below _ T134 (mkF m 48 #[SI p1, SI p2, SI p3, SI p4, SR b101, SI 1] [VR b101])
                  have F135 : Exa Z T128.heap b6_111 cC3 := (((o0_111.keep K115).keep K119).keep K128)
                  have O136 : Old Z n0 T128.heap := ((O118.keep K119 all0).keep K128 (allS u129 all0))
                  have z138 : h101.size ≤ T108.heap.size := K108.1
                  have v137 : b101 ≠ b6_111 := Nat.ne_of_lt (Nat.lt_of_lt_of_le A101.lt (Nat.le_trans z138 lob6_111))
                  have F139 : Fld Z T128.heap b6_111 cC3 "coder" "B" (VI 0) := (((o1_111.keep K115 nin0).keep K119 nin0).keep K128 (ninS (Ne.symm v137) nin0))
                  have F140 : Fld Z T128.heap b6_111 cC3 "value" "[B" (VR t27_111) := (((o2_111.keep K115 nin0).keep K119 nin0).keep K128 (ninS (Ne.symm v137) nin0))
                  have v141 : b101 ≠ t27_111 := Nat.ne_of_lt (Nat.lt_of_lt_of_le A101.lt (Nat.le_trans z138 lot27_111))
                  have F142 : Arv Z T128.heap t27_111 kb27_111 .byte 3 [VI ((nar .char (own_f19_m4 p1)).toInt8.toInt32), VI ((nar .char (own_f19_m5 p1)).toInt8.toInt32), VI ((nar .char (own_f19_m6 p1)).toInt8.toInt32)] (VI 0) := (((o3_111.keep K115 nin0).keep K119 nin0).keep K128 (ninS (Ne.symm v141) nin0))
                  have F143 : Exa Z T128.heap b6_115 cC3 := ((o0_115.keep K119).keep K128)
                  have z145 : h101.size ≤ T111.heap.size := Nat.le_trans z138 K111.1
                  have v144 : b101 ≠ b6_115 := Nat.ne_of_lt (Nat.lt_of_lt_of_le A101.lt (Nat.le_trans z145 lob6_115))
                  have F146 : Fld Z T128.heap b6_115 cC3 "coder" "B" (VI 0) := ((o1_115.keep K119 nin0).keep K128 (ninS (Ne.symm v144) nin0))
                  have F147 : Fld Z T128.heap b6_115 cC3 "value" "[B" (VR t22_115) := ((o2_115.keep K119 nin0).keep K128 (ninS (Ne.symm v144) nin0))
                  have v148 : b101 ≠ t22_115 := Nat.ne_of_lt (Nat.lt_of_lt_of_le A101.lt (Nat.le_trans z145 lot22_115))
                  have F149 : Arv Z T128.heap t22_115 kb22_115 .byte 2 [VI ((nar .char (own_f19_m4 p2)).toInt8.toInt32), VI ((nar .char (own_f19_m5 p2)).toInt8.toInt32)] (VI 0) := ((o3_115.keep K119 nin0).keep K128 (ninS (Ne.symm v148) nin0))
                  obtain ⟨_, T150, L150, X150, hQ150, st150⟩ := own_cV X134 hx hZ119 ho119 (WW hw 52) (WW hw 53) (notFace_of_selects (args := #[]) (mvT hZ119 (WW hw 55))) (WW hw 55) (WW hw 54) (WW hw 2) (WW hw 56) (rm9_29 l Z a0 hw [] b101 b6_111 G1 t27_111 kb27_111 ((nar .char (own_f19_m4 p1)).toInt8.toInt32) ((nar .char (own_f19_m5 p1)).toInt8.toInt32) ((nar .char (own_f19_m6 p1)).toInt8.toInt32) b6_115 t22_115 kb22_115 ((nar .char (own_f19_m4 p2)).toInt8.toInt32) ((nar .char (own_f19_m5 p2)).toInt8.toInt32) T128.heap n0 (Nat.le_trans Z0 z133) o2_128 F135 O_G1 O136 P_G1 F139 F140 F142 ((own_link_23_m22_8_m18 p1).2 hc6) o3_128 F143 F146 F147 F149 ((own_link_23_m17_8_m13 p2).2 hc7)) e134 o0_128 hml (g := (mkF m 48 #[SI p1, SI p2, SI p3, SI p4, SR b101, SI 1] [VR b101])) pd8 (hb hby at_48) [] [] (W := 0)
                  obtain ⟨rfl, N150q, e150⟩ := hQ150
                  have N150 := Fr.app N134 N150q
                  refine own_go st150 ?_
                  show own_Fin p e below _ T150 (mkF m 51 #[SI p1, SI p2, SI p3, SI p4, SR b101, SI 1] [VI 1])
                  refine own_go (fun _ k => XS.iload X150.here hx rfl (hb hby at_51) rfl (XS.icmpNo X150.here hx rfl (hb hby at_53) rfl (teq (by decide : (1 : Int32) = (1 : Int32))).2 (XS.iconst X150.here hx rfl (hb hby at_56) (XS.goto X150.here hx rfl (pc0 := 57) (pc' := 61) rfl (hb hby at_57) (by decide) (by decide) k)))) ?_
                  show own_Fin p e below _ T150 (mkF m 61 #[SI p1, SI p2, SI p3, SI p4, SR b101, SI 1] [VI 1])
                  have z151 : T119.heap.size ≤ T128.heap.size := K128.1
                  obtain ⟨fs, hr, hrun, hended, hend⟩ := Jvm.Stand.leaveW X150 hS119 (by rw [e150]; exact (Nat.le_trans (Nat.le_refl _) z151)) (v := some (.int (1 : Int32))) (fun h => by rw [hret] at h; cases h)
                  refine own_end (retN X150 hx (t := .boolean) hret (by simp) (hb hby at_61) hr) hrun hended ⟨_, _, rfl, ?_, hend.1, hend.2.1, hend.2.2.1, hend.2.2.2.mono (by decide) (by decide)⟩
                  show Q0 n0 _ T150.heap _
                  rw [e150]
                  exact ⟨rfl, N150⟩
            ·
              obtain ⟨_, T115, L115, X115, hQ115, st115⟩ := own_cS X111 hx hZ108 ho108 (WW hw 3) (WW hw 4) (WW hw 5) (WW hw 6) (rm1_5 l Z a0 hw [] p2 G1 T111.heap n0 (Nat.le_trans Z0 z116) hc3 hc4 hc5 O_G1 O114 P_G1) rfl hml (g := (mkF m 13 #[SI p1, SI p2, SI p3, SI p4, SU, SU] [VI p2, VR b6_111, VR r0_108, VR b101, VR b101])) pd4 (hb hby at_13) [VI p2] [VR b6_111, VR r0_108, VR b101, VR b101] (W := 4)
              obtain ⟨b6_115, t27_115, kb27_115, rfl, N115q, K115, lob6_115, lot27_115, neb6t27_115, o0_115, o1_115, o2_115, o3_115⟩ := hQ115
              have hR117 := hR113.trans (CHr.keep K115 all0 hR113.1)
              have N115 := Fr.app N111 N115q
              refine own_go st115 ?_
              show own_Fin p e below _ T115 (mkF m 16 #[SI p1, SI p2, SI p3, SI p4, SU, SU] [VR b6_115, VR b6_111, VR r0_108, VR b101, VR b101])
              refine own_go (fun _ k => XS.iloadN X115.here hx rfl (hb hby at_16) rfl k) ?_
              show own_Fin p e below _ T115 (mkF m 17 #[SI p1, SI p2, SI p3, SI p4, SU, SU] [VI p4, VR b6_115, VR b6_111, VR r0_108, VR b101, VR b101])
              have O118 : Old Z n0 T115.heap := (O114.keep K115 all0)
              have z120 : h0.size ≤ T115.heap.size := Nat.le_trans z116 K115.1
              have z121 : T108.heap.size ≤ T111.heap.size := K111.1
              have z122 : T108.heap.size ≤ T115.heap.size := Nat.le_trans z121 K115.1
              obtain ⟨_, T119, L119, X119, hQ119, hS119, hZ119, ho119, hC119, st119⟩ := own_cSH (vm0 := (s.setVm T108.vm).vm) X115 hx hZ108 ho108 hS108 (Nat.le_trans (Nat.le_refl _) z122) hEL hR117.1 (WW hw 3) (WW hw 4) (WW hw 5) (WW hw 6) (rm1_m3 l Z a0 hw [] p4 G1 T115.heap n0 (Nat.le_trans Z0 z120) O_G1 O118 P_G1) rfl hml (g := (mkF m 17 #[SI p1, SI p2, SI p3, SI p4, SU, SU] [VI p4, VR b6_115, VR b6_111, VR r0_108, VR b101, VR b101])) pd4 (hb hby at_17) [VI p4] [VR b6_115, VR b6_111, VR r0_108, VR b101, VR b101] (W := 5)
              have hR119 := hR117.trans hC119
              obtain ⟨r0_119, rfl, N119q, K119, o0_119⟩ := hQ119
              have N119 := Fr.app N115 N119q
              refine own_go st119 ?_
              show own_Fin p e below _ T119 (mkF m 20 #[SI p1, SI p2, SI p3, SI p4, SU, SU] [VR r0_119, VR b6_115, VR b6_111, VR r0_108, VR b101, VR b101])
              have F123 : Exa Z T119.heap b101 cC0 := ((((A101.keep K108).keep K111).keep K115).keep K119)
              have F124 : Fld Z T119.heap b101 cC0 "printed" cC1 (.null) := ((((F103.keep K108 nin0).keep K111 nin0).keep K115 nin0).keep K119 nin0)
              have F125 : Fld Z T119.heap b101 cC0 "article" cC1 (.null) := ((((F104.keep K108 nin0).keep K111 nin0).keep K115 nin0).keep K119 nin0)
              have F126 : Fld Z T119.heap b101 cC0 "clause" cC1 (.null) := ((((F105.keep K108 nin0).keep K111 nin0).keep K115 nin0).keep K119 nin0)
              have F127 : Fld Z T119.heap b101 cC0 "rest" cC1 (.null) := ((((F106.keep K108 nin0).keep K111 nin0).keep K115 nin0).keep K119 nin0)
              have u129 : n0 ≤ b101 := Nat.le_trans Z0 (Nat.le_of_eq g101.symm)
              have z130 : h0.size ≤ T119.heap.size := Nat.le_trans z120 K119.1
              obtain ⟨_, T128, L128, X128, hQ128, st128⟩ := own_cI X119 hx hZ119 ho119 (WW hw 32) (WW hw 33) (WW hw 2) (WW hw 34) (rm6_1 l Z a0 hw [] b101 r0_108 b6_111 b6_115 r0_119 T119.heap n0 (Nat.le_trans Z0 z130) F123 F124 u129 F125 F126 F127) rfl hml (g := (mkF m 20 #[SI p1, SI p2, SI p3, SI p4, SU, SU] [VR r0_119, VR b6_115, VR b6_111, VR r0_108, VR b101, VR b101])) pd6 (hb hby at_20) b101 [VR r0_108, VR b6_111, VR b6_115, VR r0_119] [VR b101] (W := 1)
              obtain ⟨rfl, N128q, K128, o0_128, o1_128, o2_128, o3_128, o4_128⟩ := hQ128
              have hR131 := hR119.trans (CHr.keep K128 (allS (Safe.exa (State.Warmed39.alike hZ119) F123 (by decide) (by decide)) all0) hR119.1)
              have N128 := Fr.app N119 N128q
              refine own_go st128 ?_
              show own_Fin p e below _ T128 (mkF m 23 #[SI p1, SI p2, SI p3, SI p4, SU, SU] [VR b101])
              refine own_go (fun _ k => XS.astore X128.here hx rfl (hb hby at_23) rfl rfl (l' := #[SI p1, SI p2, SI p3, SI p4, SR b101, SU]) rfl (XS.iloadN X128.here hx rfl (hb hby at_25) rfl k)) ?_
              show own_Fin p e below _ T128 (mkF m 26 #[SI p1, SI p2, SI p3, SI p4, SR b101, SU] [VI p1])
              have z133 : h0.size ≤ T128.heap.size := Nat.le_trans z130 K128.1
              obtain ⟨_, T132, L132, X132, hQ132, st132⟩ := own_cS X128 hx hZ119 ho119 (WW hw 49) (WW hw 50) (WW hw 5) (WW hw 51) (rm8_m18 l Z a0 hw [] p1 T128.heap n0 (Nat.le_trans Z0 z133) (by rw [(own_and3 ((p1.toUInt32 >>> ((24 : Int32) &&& 31).toUInt32).toInt32) hc0 hc1 hc2)]; decide : ¬ ((((p1.toUInt32 >>> ((24 : Int32) &&& 31).toUInt32).toInt32) &&& (3 : Int32)) < (1 : Int32))) (by rw [(own_and3 ((p1.toUInt32 >>> ((24 : Int32) &&& 31).toUInt32).toInt32) hc0 hc1 hc2)]; decide : ¬ ((((p1.toUInt32 >>> ((24 : Int32) &&& 31).toUInt32).toInt32) &&& (3 : Int32)) < (2 : Int32))) (by rw [(own_and3 ((p1.toUInt32 >>> ((24 : Int32) &&& 31).toUInt32).toInt32) hc0 hc1 hc2)]; decide : ¬ ((((p1.toUInt32 >>> ((24 : Int32) &&& 31).toUInt32).toInt32) &&& (3 : Int32)) < (3 : Int32)))) rfl hml (g := (mkF m 26 #[SI p1, SI p2, SI p3, SI p4, SR b101, SU] [VI p1])) pd7 (hb hby at_26) [VI p1] [] (W := 0)
              obtain ⟨rfl, N132q, e132⟩ := hQ132
              have N132 := Fr.app N128 N132q
              refine own_go st132 ?_
              show own_Fin p e below _ T132 (mkF m 29 #[SI p1, SI p2, SI p3, SI p4, SR b101, SU] [VI (own_f8_m18 p1)])
              by_cases hc6 : (own_f8_m18 p1) = (0 : Int32)
              ·
                refine own_go (fun _ k => XS.ifYes X132.here hx rfl (pc0 := 29) (pc' := 43) rfl (hb hby at_29) rfl ((if0 _ _).trans (teq hc6).1) (by decide) (by decide) (XS.iconst X132.here hx rfl (hb hby at_43) (XS.istore X132.here hx rfl (hb hby at_44) rfl (l' := #[SI p1, SI p2, SI p3, SI p4, SR b101, SI 0]) rfl (XS.aload X132.here hx rfl (hb hby at_46) rfl rfl k)))) ?_
                show own_Fin p e below _ T132 (mkF m 48 #[SI p1, SI p2, SI p3, SI p4, SR b101, SI 0] [VR b101])
                have F134 : Exa Z T128.heap b6_111 cC3 := (((o0_111.keep K115).keep K119).keep K128)
                have O135 : Old Z n0 T128.heap := ((O118.keep K119 all0).keep K128 (allS u129 all0))
                have z137 : h101.size ≤ T108.heap.size := K108.1
                have v136 : b101 ≠ b6_111 := Nat.ne_of_lt (Nat.lt_of_lt_of_le A101.lt (Nat.le_trans z137 lob6_111))
                have F138 : Fld Z T128.heap b6_111 cC3 "coder" "B" (VI 0) := (((o1_111.keep K115 nin0).keep K119 nin0).keep K128 (ninS (Ne.symm v136) nin0))
                have F139 : Fld Z T128.heap b6_111 cC3 "value" "[B" (VR t27_111) := (((o2_111.keep K115 nin0).keep K119 nin0).keep K128 (ninS (Ne.symm v136) nin0))
                have v140 : b101 ≠ t27_111 := Nat.ne_of_lt (Nat.lt_of_lt_of_le A101.lt (Nat.le_trans z137 lot27_111))
                have F141 : Arv Z T128.heap t27_111 kb27_111 .byte 3 [VI ((nar .char (own_f19_m4 p1)).toInt8.toInt32), VI ((nar .char (own_f19_m5 p1)).toInt8.toInt32), VI ((nar .char (own_f19_m6 p1)).toInt8.toInt32)] (VI 0) := (((o3_111.keep K115 nin0).keep K119 nin0).keep K128 (ninS (Ne.symm v140) nin0))
                obtain ⟨_, T142, L142, X142, hQ142, st142⟩ := own_cV X132 hx hZ119 ho119 (WW hw 52) (WW hw 53) (notFace_of_selects (args := #[]) (mvT hZ119 (WW hw 55))) (WW hw 55) (WW hw 54) (WW hw 2) (WW hw 56) (rm9_24 l Z a0 hw [] b101 b6_111 G1 t27_111 kb27_111 ((nar .char (own_f19_m4 p1)).toInt8.toInt32) ((nar .char (own_f19_m5 p1)).toInt8.toInt32) ((nar .char (own_f19_m6 p1)).toInt8.toInt32) T128.heap n0 (Nat.le_trans Z0 z133) o2_128 F134 O_G1 O135 P_G1 F138 F139 F141 ((own_link_23_m22_8_m18 p1).1 hc6)) e132 o0_128 hml (g := (mkF m 48 #[SI p1, SI p2, SI p3, SI p4, SR b101, SI 0] [VR b101])) pd8 (hb hby at_48) [] [] (W := 0)
                obtain ⟨rfl, N142q, e142⟩ := hQ142
                have N142 := Fr.app N132 N142q
                refine own_go st142 ?_
                show own_Fin p e below _ T142 (mkF m 51 #[SI p1, SI p2, SI p3, SI p4, SR b101, SI 0] [VI 0])
                refine own_go (fun _ k => XS.iload X142.here hx rfl (hb hby at_51) rfl (XS.icmpNo X142.here hx rfl (hb hby at_53) rfl (teq (by decide : (0 : Int32) = (0 : Int32))).2 (XS.iconst X142.here hx rfl (hb hby at_56) (XS.goto X142.here hx rfl (pc0 := 57) (pc' := 61) rfl (hb hby at_57) (by decide) (by decide) k)))) ?_
                show own_Fin p e below _ T142 (mkF m 61 #[SI p1, SI p2, SI p3, SI p4, SR b101, SI 0] [VI 1])
                have z143 : T119.heap.size ≤ T128.heap.size := K128.1
                obtain ⟨fs, hr, hrun, hended, hend⟩ := Jvm.Stand.leaveW X142 hS119 (by rw [e142]; exact (Nat.le_trans (Nat.le_refl _) z143)) (v := some (.int (1 : Int32))) (fun h => by rw [hret] at h; cases h)
                refine own_end (retN X142 hx (t := .boolean) hret (by simp) (hb hby at_61) hr) hrun hended ⟨_, _, rfl, ?_, hend.1, hend.2.1, hend.2.2.1, hend.2.2.2.mono (by decide) (by decide)⟩
                show Q0 n0 _ T142.heap _
                rw [e142]
                exact ⟨rfl, N142⟩
              ·
                refine own_go (fun _ k => XS.ifNo X132.here hx rfl (hb hby at_29) rfl ((if0 _ _).trans (feq hc6).1) (XS.iloadN X132.here hx rfl (hb hby at_32) rfl k)) ?_
                show own_Fin p e below _ T132 (mkF m 33 #[SI p1, SI p2, SI p3, SI p4, SR b101, SU] [VI p2])
                obtain ⟨_, T134, L134, X134, hQ134, st134⟩ := own_cS X132 hx hZ119 ho119 (WW hw 49) (WW hw 50) (WW hw 5) (WW hw 51) (rm8_m18 l Z a0 hw [] p2 T128.heap n0 (Nat.le_trans Z0 z133) (by rw [(own_and3 ((p2.toUInt32 >>> ((24 : Int32) &&& 31).toUInt32).toInt32) hc3 hc4 hc5)]; decide : ¬ ((((p2.toUInt32 >>> ((24 : Int32) &&& 31).toUInt32).toInt32) &&& (3 : Int32)) < (1 : Int32))) (by rw [(own_and3 ((p2.toUInt32 >>> ((24 : Int32) &&& 31).toUInt32).toInt32) hc3 hc4 hc5)]; decide : ¬ ((((p2.toUInt32 >>> ((24 : Int32) &&& 31).toUInt32).toInt32) &&& (3 : Int32)) < (2 : Int32))) (by rw [(own_and3 ((p2.toUInt32 >>> ((24 : Int32) &&& 31).toUInt32).toInt32) hc3 hc4 hc5)]; decide : ¬ ((((p2.toUInt32 >>> ((24 : Int32) &&& 31).toUInt32).toInt32) &&& (3 : Int32)) < (3 : Int32)))) e132 hml (g := (mkF m 33 #[SI p1, SI p2, SI p3, SI p4, SR b101, SU] [VI p2])) pd7 (hb hby at_33) [VI p2] [] (W := 0)
                obtain ⟨rfl, N134q, e134⟩ := hQ134
                have N134 := Fr.app N132 N134q
                refine own_go st134 ?_
                show own_Fin p e below _ T134 (mkF m 36 #[SI p1, SI p2, SI p3, SI p4, SR b101, SU] [VI (own_f8_m18 p2)])
                by_cases hc7 : (own_f8_m18 p2) = (0 : Int32)
                ·
                  refine own_go (fun _ k => XS.ifYes X134.here hx rfl (pc0 := 36) (pc' := 43) rfl (hb hby at_36) rfl ((if0 _ _).trans (teq hc7).1) (by decide) (by decide) (XS.iconst X134.here hx rfl (hb hby at_43) (XS.istore X134.here hx rfl (hb hby at_44) rfl (l' := #[SI p1, SI p2, SI p3, SI p4, SR b101, SI 0]) rfl (XS.aload X134.here hx rfl (hb hby at_46) rfl rfl k)))) ?_
                  show own_Fin p e below _ T134 (mkF m 48 #[SI p1, SI p2, SI p3, SI p4, SR b101, SI 0] [VR b101])
                  have F135 : Exa Z T128.heap b6_111 cC3 := (((o0_111.keep K115).keep K119).keep K128)
                  have O136 : Old Z n0 T128.heap := ((O118.keep K119 all0).keep K128 (allS u129 all0))
                  have z138 : h101.size ≤ T108.heap.size := K108.1
                  have v137 : b101 ≠ b6_111 := Nat.ne_of_lt (Nat.lt_of_lt_of_le A101.lt (Nat.le_trans z138 lob6_111))
                  have F139 : Fld Z T128.heap b6_111 cC3 "coder" "B" (VI 0) := (((o1_111.keep K115 nin0).keep K119 nin0).keep K128 (ninS (Ne.symm v137) nin0))
                  have F140 : Fld Z T128.heap b6_111 cC3 "value" "[B" (VR t27_111) := (((o2_111.keep K115 nin0).keep K119 nin0).keep K128 (ninS (Ne.symm v137) nin0))
                  have v141 : b101 ≠ t27_111 := Nat.ne_of_lt (Nat.lt_of_lt_of_le A101.lt (Nat.le_trans z138 lot27_111))
                  have F142 : Arv Z T128.heap t27_111 kb27_111 .byte 3 [VI ((nar .char (own_f19_m4 p1)).toInt8.toInt32), VI ((nar .char (own_f19_m5 p1)).toInt8.toInt32), VI ((nar .char (own_f19_m6 p1)).toInt8.toInt32)] (VI 0) := (((o3_111.keep K115 nin0).keep K119 nin0).keep K128 (ninS (Ne.symm v141) nin0))
                  have F143 : Exa Z T128.heap b6_115 cC3 := ((o0_115.keep K119).keep K128)
                  have z145 : h101.size ≤ T111.heap.size := Nat.le_trans z138 K111.1
                  have v144 : b101 ≠ b6_115 := Nat.ne_of_lt (Nat.lt_of_lt_of_le A101.lt (Nat.le_trans z145 lob6_115))
                  have F146 : Fld Z T128.heap b6_115 cC3 "coder" "B" (VI 0) := ((o1_115.keep K119 nin0).keep K128 (ninS (Ne.symm v144) nin0))
                  have F147 : Fld Z T128.heap b6_115 cC3 "value" "[B" (VR t27_115) := ((o2_115.keep K119 nin0).keep K128 (ninS (Ne.symm v144) nin0))
                  have v148 : b101 ≠ t27_115 := Nat.ne_of_lt (Nat.lt_of_lt_of_le A101.lt (Nat.le_trans z145 lot27_115))
                  have F149 : Arv Z T128.heap t27_115 kb27_115 .byte 3 [VI ((nar .char (own_f19_m4 p2)).toInt8.toInt32), VI ((nar .char (own_f19_m5 p2)).toInt8.toInt32), VI ((nar .char (own_f19_m6 p2)).toInt8.toInt32)] (VI 0) := ((o3_115.keep K119 nin0).keep K128 (ninS (Ne.symm v148) nin0))
                  obtain ⟨_, T150, L150, X150, hQ150, st150⟩ := own_cV X134 hx hZ119 ho119 (WW hw 52) (WW hw 53) (notFace_of_selects (args := #[]) (mvT hZ119 (WW hw 55))) (WW hw 55) (WW hw 54) (WW hw 2) (WW hw 56) (rm9_30 l Z a0 hw [] b101 b6_111 G1 t27_111 kb27_111 ((nar .char (own_f19_m4 p1)).toInt8.toInt32) ((nar .char (own_f19_m5 p1)).toInt8.toInt32) ((nar .char (own_f19_m6 p1)).toInt8.toInt32) b6_115 t27_115 kb27_115 ((nar .char (own_f19_m4 p2)).toInt8.toInt32) ((nar .char (own_f19_m5 p2)).toInt8.toInt32) ((nar .char (own_f19_m6 p2)).toInt8.toInt32) T128.heap n0 (Nat.le_trans Z0 z133) o2_128 F135 O_G1 O136 P_G1 F139 F140 F142 ((own_link_23_m22_8_m18 p1).2 hc6) o3_128 F143 F146 F147 F149 ((own_link_23_m22_8_m18 p2).1 hc7)) e134 o0_128 hml (g := (mkF m 48 #[SI p1, SI p2, SI p3, SI p4, SR b101, SI 0] [VR b101])) pd8 (hb hby at_48) [] [] (W := 0)
                  obtain ⟨rfl, N150q, e150⟩ := hQ150
                  have N150 := Fr.app N134 N150q
                  refine own_go st150 ?_
                  show own_Fin p e below _ T150 (mkF m 51 #[SI p1, SI p2, SI p3, SI p4, SR b101, SI 0] [VI 0])
                  refine own_go (fun _ k => XS.iload X150.here hx rfl (hb hby at_51) rfl (XS.icmpNo X150.here hx rfl (hb hby at_53) rfl (teq (by decide : (0 : Int32) = (0 : Int32))).2 (XS.iconst X150.here hx rfl (hb hby at_56) (XS.goto X150.here hx rfl (pc0 := 57) (pc' := 61) rfl (hb hby at_57) (by decide) (by decide) k)))) ?_
                  show own_Fin p e below _ T150 (mkF m 61 #[SI p1, SI p2, SI p3, SI p4, SR b101, SI 0] [VI 1])
                  have z151 : T119.heap.size ≤ T128.heap.size := K128.1
                  obtain ⟨fs, hr, hrun, hended, hend⟩ := Jvm.Stand.leaveW X150 hS119 (by rw [e150]; exact (Nat.le_trans (Nat.le_refl _) z151)) (v := some (.int (1 : Int32))) (fun h => by rw [hret] at h; cases h)
                  refine own_end (retN X150 hx (t := .boolean) hret (by simp) (hb hby at_61) hr) hrun hended ⟨_, _, rfl, ?_, hend.1, hend.2.1, hend.2.2.1, hend.2.2.2.mono (by decide) (by decide)⟩
                  show Q0 n0 _ T150.heap _
                  rw [e150]
                  exact ⟨rfl, N150⟩
                ·
                  refine own_go (fun _ k => XS.ifNo X134.here hx rfl (hb hby at_36) rfl ((if0 _ _).trans (feq hc7).1) (XS.iconst X134.here hx rfl (hb hby at_39) (XS.goto X134.here hx rfl (pc0 := 40) (pc' := 44) rfl (hb hby at_40) (by decide) (by decide) (XS.istore X134.here hx rfl (hb hby at_44) rfl (l' := #[SI p1, SI p2, SI p3, SI p4, SR b101, SI 1]) rfl (XS.aload X134.here hx rfl (hb hby at_46) rfl rfl k))))) ?_
                  show own_Fin p e below _ T134 (mkF m 48 #[SI p1, SI p2, SI p3, SI p4, SR b101, SI 1] [VR b101])
                  have F135 : Exa Z T128.heap b6_111 cC3 := (((o0_111.keep K115).keep K119).keep K128)
                  have O136 : Old Z n0 T128.heap := ((O118.keep K119 all0).keep K128 (allS u129 all0))
                  have z138 : h101.size ≤ T108.heap.size := K108.1
                  have v137 : b101 ≠ b6_111 := Nat.ne_of_lt (Nat.lt_of_lt_of_le A101.lt (Nat.le_trans z138 lob6_111))
                  have F139 : Fld Z T128.heap b6_111 cC3 "coder" "B" (VI 0) := (((o1_111.keep K115 nin0).keep K119 nin0).keep K128 (ninS (Ne.symm v137) nin0))
                  have F140 : Fld Z T128.heap b6_111 cC3 "value" "[B" (VR t27_111) := (((o2_111.keep K115 nin0).keep K119 nin0).keep K128 (ninS (Ne.symm v137) nin0))
                  have v141 : b101 ≠ t27_111 := Nat.ne_of_lt (Nat.lt_of_lt_of_le A101.lt (Nat.le_trans z138 lot27_111))
                  have F142 : Arv Z T128.heap t27_111 kb27_111 .byte 3 [VI ((nar .char (own_f19_m4 p1)).toInt8.toInt32), VI ((nar .char (own_f19_m5 p1)).toInt8.toInt32), VI ((nar .char (own_f19_m6 p1)).toInt8.toInt32)] (VI 0) := (((o3_111.keep K115 nin0).keep K119 nin0).keep K128 (ninS (Ne.symm v141) nin0))
                  have F143 : Exa Z T128.heap b6_115 cC3 := ((o0_115.keep K119).keep K128)
                  have z145 : h101.size ≤ T111.heap.size := Nat.le_trans z138 K111.1
                  have v144 : b101 ≠ b6_115 := Nat.ne_of_lt (Nat.lt_of_lt_of_le A101.lt (Nat.le_trans z145 lob6_115))
                  have F146 : Fld Z T128.heap b6_115 cC3 "coder" "B" (VI 0) := ((o1_115.keep K119 nin0).keep K128 (ninS (Ne.symm v144) nin0))
                  have F147 : Fld Z T128.heap b6_115 cC3 "value" "[B" (VR t27_115) := ((o2_115.keep K119 nin0).keep K128 (ninS (Ne.symm v144) nin0))
                  have v148 : b101 ≠ t27_115 := Nat.ne_of_lt (Nat.lt_of_lt_of_le A101.lt (Nat.le_trans z145 lot27_115))
                  have F149 : Arv Z T128.heap t27_115 kb27_115 .byte 3 [VI ((nar .char (own_f19_m4 p2)).toInt8.toInt32), VI ((nar .char (own_f19_m5 p2)).toInt8.toInt32), VI ((nar .char (own_f19_m6 p2)).toInt8.toInt32)] (VI 0) := ((o3_115.keep K119 nin0).keep K128 (ninS (Ne.symm v148) nin0))
                  obtain ⟨_, T150, L150, X150, hQ150, st150⟩ := own_cV X134 hx hZ119 ho119 (WW hw 52) (WW hw 53) (notFace_of_selects (args := #[]) (mvT hZ119 (WW hw 55))) (WW hw 55) (WW hw 54) (WW hw 2) (WW hw 56) (rm9_31 l Z a0 hw [] b101 b6_111 G1 t27_111 kb27_111 ((nar .char (own_f19_m4 p1)).toInt8.toInt32) ((nar .char (own_f19_m5 p1)).toInt8.toInt32) ((nar .char (own_f19_m6 p1)).toInt8.toInt32) b6_115 t27_115 kb27_115 ((nar .char (own_f19_m4 p2)).toInt8.toInt32) ((nar .char (own_f19_m5 p2)).toInt8.toInt32) ((nar .char (own_f19_m6 p2)).toInt8.toInt32) T128.heap n0 (Nat.le_trans Z0 z133) o2_128 F135 O_G1 O136 P_G1 F139 F140 F142 ((own_link_23_m22_8_m18 p1).2 hc6) o3_128 F143 F146 F147 F149 ((own_link_23_m22_8_m18 p2).2 hc7)) e134 o0_128 hml (g := (mkF m 48 #[SI p1, SI p2, SI p3, SI p4, SR b101, SI 1] [VR b101])) pd8 (hb hby at_48) [] [] (W := 0)
                  obtain ⟨rfl, N150q, e150⟩ := hQ150
                  have N150 := Fr.app N134 N150q
                  refine own_go st150 ?_
                  show own_Fin p e below _ T150 (mkF m 51 #[SI p1, SI p2, SI p3, SI p4, SR b101, SI 1] [VI 1])
                  refine own_go (fun _ k => XS.iload X150.here hx rfl (hb hby at_51) rfl (XS.icmpNo X150.here hx rfl (hb hby at_53) rfl (teq (by decide : (1 : Int32) = (1 : Int32))).2 (XS.iconst X150.here hx rfl (hb hby at_56) (XS.goto X150.here hx rfl (pc0 := 57) (pc' := 61) rfl (hb hby at_57) (by decide) (by decide) k)))) ?_
                  show own_Fin p e below _ T150 (mkF m 61 #[SI p1, SI p2, SI p3, SI p4, SR b101, SI 1] [VI 1])
                  have z151 : T119.heap.size ≤ T128.heap.size := K128.1
                  obtain ⟨fs, hr, hrun, hended, hend⟩ := Jvm.Stand.leaveW X150 hS119 (by rw [e150]; exact (Nat.le_trans (Nat.le_refl _) z151)) (v := some (.int (1 : Int32))) (fun h => by rw [hret] at h; cases h)
                  refine own_end (retN X150 hx (t := .boolean) hret (by simp) (hb hby at_61) hr) hrun hended ⟨_, _, rfl, ?_, hend.1, hend.2.1, hend.2.2.1, hend.2.2.2.mono (by decide) (by decide)⟩
                  show Q0 n0 _ T150.heap _
                  rw [e150]
                  exact ⟨rfl, N150⟩
set_option maxRecDepth 65536 in
set_option maxHeartbeats 40000000 in
theorem comes_1 {Post : Tables → Env → Array Value → State → Outcome → State → Prop} (hpost : ∀ tb e args s v u, (limb_1_1.after args s (.returned v) u = true ∧ limb_1_2.after args s (.returned v) u = true ∧ True) → ReturnedEndW s (.returned v) u (Jvm.fieldLocs frame_1_writes args s ++ Jvm.arrayLocs frame_1_arrays args s ++ Jvm.staticLocs frame_1_statics s) 40 1216 → Post tb e args s (.returned v) u) :
    ArmFor flags0 classFile x code maxLocals ret World_1 tables_1 room_1 Calls_1 rest_1 Pre_1 Post := by
  intro l hfl _ _ p e ha hc hk s m args below hf hA hF happ hP
  obtain ⟨hcalls, hrest, hpre⟩ := hP
  obtain ⟨-, -, -, hnamed, -, -, -, hat⟩ := (Spec.applies_iff hf).mp happ
  obtain ⟨hg, hn⟩ := and_e (Cond.before_iff.mp (show (Jvm.Cond.and given_1 narrow_1).before args s = true from hpre))
  obtain ⟨hcount, ha0⟩ := and_e hg
  obtain ⟨hv0, ha1⟩ := and_e ha0
  obtain ⟨hv1, ha2⟩ := and_e ha1
  obtain ⟨hv2, ha3⟩ := and_e ha2
  have hv3 := ha3
  obtain ⟨w0, w1, w2, w3, rfl⟩ : ∃ w0 w1 w2 w3 : Value, args = #[w0, w1, w2, w3] := by
    have hs : args.size = 4 := by simpa [Cond.value, given_1] using hcount
    obtain ⟨L⟩ := args
    match L, hs with
    | [w0, w1, w2, w3], _ => exact ⟨w0, w1, w2, w3, rfl⟩
  have hw := fun d (hd : d ∈ tables_1) => atoms_spec (ws := Jvm.Cond.code x code maxLocals ret :: tables_1) hat d (List.mem_cons_of_mem _ hd)
  obtain ⟨hsets, hown0⟩ := atoms_of _ (rest_1_c_eq ▸ (show rest_1_c.before _ s = true from hrest))
  obtain ⟨i0, ei0⟩ := is_v hv0
  obtain rfl : w0 = (.int i0) := Option.some.inj ei0
  obtain ⟨i1, ei1⟩ := is_v hv1
  obtain rfl : w1 = (.int i1) := Option.some.inj ei1
  obtain ⟨i2, ei2⟩ := is_v hv2
  obtain rfl : w2 = (.int i2) := Option.some.inj ei2
  obtain ⟨i3, ei3⟩ := is_v hv3
  obtain rfl : w3 = (.int i3) := Option.some.inj ei3
  obtain ⟨G1, e_G1⟩ := is_v (Cond.before_iff.mp (hsets _ (List.mem_of_getElem? (i := 1) rfl)))
  have S_G1 : Sta s s.heap "java/lang/String" "COMPACT_STRINGS" "Z" (.int G1) := Sta.start e_G1 (Or.inl (hsets _ (List.mem_of_getElem? (i := 0) rfl)))
  have c_G1 : ¬ (G1 = (0 : Int32)) := gotF (Cond.eq_ints e_G1 (Term.int_eval (0))) (not_v (Cond.before_iff.mp (hsets _ (List.mem_of_getElem? (i := 2) rfl))))
  have hEL : EW s _ own_EL := (EW.cons (WW hw 24) (by decide) EW.nil)
  have hCH : CHv s own_EL s.vm s.heap := CHv.start hEL (fun q hq => hcalls.1 q hq) (hsets _ (List.mem_of_getElem? (i := 2) rfl)) (WW hw 25) (WW hw 11)
  obtain ⟨n, o, h1, h2, h3, _, L, rfl, ⟨rfl, N⟩, hq⟩ := rm0 l s _ hw tables_1 i0 i1 i2 i3 G1 s.heap s.heap.size (Nat.le_refl _) (Old.start s) S_G1 c_G1 p e ha hc hk s m _ below hf ((Spec.applies_iff_loose hf).mp happ).1 ⟨rfl, State.Warmed39.refl s, rfl, hCH⟩ trivial
  refine ⟨n, _, h1, h2, h3, hpost _ _ _ _ _ _ ⟨Cond.after_iff.mpr rfl, Cond.after_iff.mpr (eq_i res_at (Term.int_eval (1)) rfl), trivial⟩ ⟨hq.1, hq.2.1, hq.2.2.1, (hq.2.2.2.sift fun y hy => Or.inr (N y hy)).mono (by decide) (by decide)⟩⟩
theorem main_1_1 : Claimed_1_1 := comes_1 fun _ _ _ _ _ _ h hF => ⟨h.1, hF⟩
theorem main_1_2 : Claimed_1_2 := comes_1 fun _ _ _ _ _ _ h hF => ⟨h.2.1, hF⟩
end Jvm.Pilot.@@N@@
namespace Jvm.Pilot.@@N@@
open Jvm Jvm.ClassFile Sem Op Lib Jvm.Free Jvm.Stand Jvm.Pilot.@@N@@.Jvm.D
/-! MADE BY PROGRAM (witnessworld.py) out of the Statement's table words and the real class files: 20 classes; the members and pool entries that the words name. The judged class is class 1, her method 1. -/
namespace start1
open Jvm.ClassFile
def u (s : String) : CpInfo := .utf8 (stringToUtf16 s)
/-- a pool by its gaps: so many unusable entries, then the entry; so many at the end -/
def gap : Nat → List CpInfo → List CpInfo
  | 0, r => r
  | n + 1, r => .unusable :: gap n r
def poolList (es : List (Nat × CpInfo)) (last : Nat) : List CpInfo := es.foldr (fun e r => gap e.1 (e.2 :: r)) (gap last [])
def pool (es : List (Nat × CpInfo)) (last : Nat) : Array CpInfo := ⟨poolList es last⟩
def fileOf (pool : Array CpInfo) (this : Nat) (attrs : Array Attribute := #[]) (ms : Array MethodInfo := #[]) (fl : Nat := 33) (sup : Nat := 0) (ifs : Array Nat := #[]) (fds : Array FieldInfo := #[]) : ClassFile where
  minorVersion := 0
  majorVersion := 65
  constantPool := pool
  accessFlags := fl
  thisClass := this
  superClass := sup
  interfaces := ifs
  fields := fds
  methods := ms
  attributes := attrs
def plain (name : String) (sup : Option ClassId) : Class where
  name := name
  kind := .ordinary
  loader := none
  accessFlags := 33
  super := sup
  interfaces := #[]
  cf := none
  fields := #[]
  methods := #[]
  instanceTypes := #[]
  staticTypes := #[]
  resolved := #[]
  callSites := []
  init := .initialized
  statics := none
  mirror := none

def pool0 : Array CpInfo := pool [(5, u "<init>"), (0, u "()V"), (1, .class_ 10), (1, u "java/lang/Object")] 113

def k0c0 : Code := { maxStack := 0, maxLocals := 1, code := object_method_1_code, exceptionTable := #[], attributes := #[] }
def k0m0 : Method := { name := "<init>", desc := "()V", sig := { parameters := [], returnType := none }, accessFlags := 1, code := some k0c0 }
/-- java/lang/Object -/
def k0 : Class := { plain "java/lang/Object" none with
  accessFlags := 33
  interfaces := #[]
  cf := some (fileOf pool0 8 #[] #[{ accessFlags := 1, nameIndex := 5, descriptorIndex := 6, attributes := #[] }] 33 0 #[] #[])
  fields := #[]
  methods := #[k0m0]
  instanceTypes := #[]
  staticTypes := #[]
  resolved := Array.replicate 124 none
  statics := none }

def pool1 : Array CpInfo := pool [(2, .class_ 4), (1, u "java/lang/Object"), (0, u "<init>"), (0, u "()V"), (0, .class_ 8), (0, u site_20.cls), (0, .methodref 10 11), (0, .class_ 12), (0, .nameAndType 13 14), (0, u x.cls), (0, u "drawn"), (0, u "(I)Ljava/lang/String;"), (0, .methodref 7 16), (0, .nameAndType 5 17), (0, u "(Ljava/lang/String;Ljava/lang/String;Ljava/lang/String;Ljava/lang/String;)V"), (0, .methodref 10 19), (0, .nameAndType 20 21), (0, u "noMark"), (0, u "(I)Z"), (0, .methodref 7 23), (0, .nameAndType 24 25), (0, u "isClean"), (0, u "()Z"), (0, .methodref 10 27), (0, .nameAndType 28 29), (0, u "length"), (0, u "(I)I"), (0, .class_ 31), (0, u "java/lang/String"), (0, .methodref 30 33), (0, .nameAndType 5 34), (0, u "([C)V"), (0, .methodref 10 36), (0, .nameAndType 37 38), (0, u "at"), (0, u "(II)C"), (2, u "law"), (0, u "(IIII)Z")] 7

def k1m0 : Method := { name := "<init>", desc := "()V", sig := { parameters := [], returnType := none }, accessFlags := 2, code := none }
def k1c1 : Code := { maxStack := 6, maxLocals := 6, code := code, exceptionTable := #[], attributes := #[] }
def k1m1 : Method := { name := "law", desc := "(IIII)Z", sig := { parameters := [.int, .int, .int, .int], returnType := some .boolean }, accessFlags := 9, code := some k1c1 }
def k1c2 : Code := { maxStack := 3, maxLocals := 2, code := method_3_code, exceptionTable := #[], attributes := #[] }
def k1m2 : Method := { name := "at", desc := "(II)C", sig := { parameters := [.int, .int], returnType := some .char }, accessFlags := 10, code := some k1c2 }
def k1c3 : Code := { maxStack := 2, maxLocals := 1, code := method_4_code, exceptionTable := #[], attributes := #[] }
def k1m3 : Method := { name := "length", desc := "(I)I", sig := { parameters := [.int], returnType := some .int }, accessFlags := 10, code := some k1c3 }
def k1c4 : Code := { maxStack := 7, maxLocals := 2, code := method_5_code, exceptionTable := #[], attributes := #[] }
def k1m4 : Method := { name := "drawn", desc := "(I)Ljava/lang/String;", sig := { parameters := [.int], returnType := some (.object "java/lang/String") }, accessFlags := 10, code := some k1c4 }
def k1c5 : Code := { maxStack := 2, maxLocals := 5, code := method_6_code, exceptionTable := #[], attributes := #[] }
def k1m5 : Method := { name := "noMark", desc := "(I)Z", sig := { parameters := [.int], returnType := some .boolean }, accessFlags := 10, code := some k1c5 }
def k1 : Class := { plain x.cls (some 0) with
  accessFlags := 49
  interfaces := #[]
  cf := some (fileOf pool1 10 #[] #[{ accessFlags := 2, nameIndex := 5, descriptorIndex := 6, attributes := #[] }, { accessFlags := 9, nameIndex := 41, descriptorIndex := 42, attributes := #[] }, { accessFlags := 10, nameIndex := 37, descriptorIndex := 38, attributes := #[] }, { accessFlags := 10, nameIndex := 28, descriptorIndex := 29, attributes := #[] }, { accessFlags := 10, nameIndex := 13, descriptorIndex := 14, attributes := #[] }, { accessFlags := 10, nameIndex := 20, descriptorIndex := 21, attributes := #[] }] 49 2 #[] #[])
  fields := #[]
  methods := #[k1m0, k1m1, k1m2, k1m3, k1m4, k1m5]
  instanceTypes := #[]
  staticTypes := #[]
  resolved := Array.replicate 50 none
  statics := none }

def pool2 : Array CpInfo := pool [(1, .methodref 2 3), (0, .class_ 4), (0, .nameAndType 5 6), (0, u "java/lang/Object"), (0, u "<init>"), (0, u "()V"), (0, .class_ 8), (0, u "java/lang/Record")] 13

def k2c0 : Code := { maxStack := 1, maxLocals := 1, code := jdk_30_method_1_code, exceptionTable := #[], attributes := #[] }
def k2m0 : Method := { name := "<init>", desc := "()V", sig := { parameters := [], returnType := none }, accessFlags := 4, code := some k2c0 }
/-- java/lang/Record -/
def k2 : Class := { plain "java/lang/Record" (some 0) with
  accessFlags := 1057
  interfaces := #[]
  cf := some (fileOf pool2 7 #[] #[{ accessFlags := 4, nameIndex := 5, descriptorIndex := 6, attributes := #[] }] 1057 2 #[] #[])
  fields := #[]
  methods := #[k2m0]
  instanceTypes := #[]
  staticTypes := #[]
  resolved := Array.replicate 22 none
  statics := none }

def pool3 : Array CpInfo := pool [(3, .methodref 4 5), (0, .class_ 6), (0, .nameAndType 7 8), (0, u "java/lang/Record"), (0, u "<init>"), (0, u "()V"), (0, .fieldref 10 11), (0, .class_ 12), (0, .nameAndType 13 14), (0, u site_20.cls), (0, u "printed"), (0, u "Ljava/lang/String;"), (0, .fieldref 10 16), (0, .nameAndType 17 14), (0, u "article"), (0, .fieldref 10 19), (0, .nameAndType 20 14), (0, u "clause"), (0, .fieldref 10 22), (0, .nameAndType 23 14), (0, u "rest"), (0, .methodref 25 26), (0, .class_ 27), (0, .nameAndType 28 29), (0, u "java/lang/String"), (0, u "indexOf"), (0, u "(I)I"), (26, u "(Ljava/lang/String;Ljava/lang/String;Ljava/lang/String;Ljava/lang/String;)V"), (3, u "isClean"), (0, u "()Z")] 45

def k3c0 : Code := { maxStack := 2, maxLocals := 5, code := prog_105_method_1_code, exceptionTable := #[], attributes := #[] }
def k3m0 : Method := { name := "<init>", desc := "(Ljava/lang/String;Ljava/lang/String;Ljava/lang/String;Ljava/lang/String;)V", sig := { parameters := [(.object "java/lang/String"), (.object "java/lang/String"), (.object "java/lang/String"), (.object "java/lang/String")], returnType := none }, accessFlags := 0, code := some k3c0 }
def k3c1 : Code := { maxStack := 2, maxLocals := 1, code := prog_105_method_2_code, exceptionTable := #[], attributes := #[] }
def k3m1 : Method := { name := "isClean", desc := "()Z", sig := { parameters := [], returnType := some .boolean }, accessFlags := 0, code := some k3c1 }
def k3 : Class := { plain site_20.cls (some 2) with
  accessFlags := 48
  interfaces := #[]
  cf := some (fileOf pool3 10 #[] #[{ accessFlags := 0, nameIndex := 7, descriptorIndex := 56, attributes := #[] }, { accessFlags := 0, nameIndex := 60, descriptorIndex := 61, attributes := #[] }] 48 4 #[] #[{ accessFlags := 18, nameIndex := 13, descriptorIndex := 14, attributes := #[] }, { accessFlags := 18, nameIndex := 17, descriptorIndex := 14, attributes := #[] }, { accessFlags := 18, nameIndex := 20, descriptorIndex := 14, attributes := #[] }, { accessFlags := 18, nameIndex := 23, descriptorIndex := 14, attributes := #[] }])
  fields := #[{ name := "printed", type := (.object "java/lang/String"), accessFlags := 18, slot := 0, constantValue := 0 }, { name := "article", type := (.object "java/lang/String"), accessFlags := 18, slot := 1, constantValue := 0 }, { name := "clause", type := (.object "java/lang/String"), accessFlags := 18, slot := 2, constantValue := 0 }, { name := "rest", type := (.object "java/lang/String"), accessFlags := 18, slot := 3, constantValue := 0 }]
  methods := #[k3m0, k3m1]
  instanceTypes := #[(.object "java/lang/String"), (.object "java/lang/String"), (.object "java/lang/String"), (.object "java/lang/String")]
  staticTypes := #[]
  resolved := Array.replicate 107 none
  statics := none }

def pool4 : Array CpInfo := pool [(1, .class_ 2), (0, u "java/io/Serializable"), (0, .class_ 4), (0, u "java/lang/Object")] 2

/-- java/io/Serializable -/
def k4 : Class := { plain "java/io/Serializable" (some 0) with
  accessFlags := 1537
  interfaces := #[]
  cf := some (fileOf pool4 1 #[] #[] 1537 3 #[] #[])
  fields := #[]
  methods := #[]
  instanceTypes := #[]
  staticTypes := #[]
  resolved := Array.replicate 7 none
  statics := none }

def pool5 : Array CpInfo := pool [(1, .class_ 2), (0, u "java/lang/Comparable"), (0, .class_ 4), (0, u "java/lang/Object")] 7

/-- java/lang/Comparable -/
def k5 : Class := { plain "java/lang/Comparable" (some 0) with
  accessFlags := 1537
  interfaces := #[]
  cf := some (fileOf pool5 1 #[] #[] 1537 3 #[] #[])
  fields := #[]
  methods := #[]
  instanceTypes := #[]
  staticTypes := #[]
  resolved := Array.replicate 12 none
  statics := none }

def pool6 : Array CpInfo := pool [(2, .class_ 4), (1, u "java/lang/CharSequence"), (42, .class_ 48), (0, u "java/lang/CharSequence$1CodePointIterator"), (10, .class_ 60), (0, u "java/lang/CharSequence$1CharIterator"), (5, .class_ 67), (0, u "java/lang/Object")] 63

/-- java/lang/CharSequence -/
def k6 : Class := { plain "java/lang/CharSequence" (some 0) with
  accessFlags := 1537
  interfaces := #[]
  cf := some (fileOf pool6 2 #[.nestMembers #[47, 59]] #[] 1537 66 #[] #[])
  fields := #[]
  methods := #[]
  instanceTypes := #[]
  staticTypes := #[]
  resolved := Array.replicate 131 none
  statics := none }

def pool7 : Array CpInfo := pool [(1, .class_ 2), (0, u "java/lang/constant/Constable"), (0, .class_ 4), (0, u "java/lang/Object")] 6

/-- java/lang/constant/Constable -/
def k7 : Class := { plain "java/lang/constant/Constable" (some 0) with
  accessFlags := 1537
  interfaces := #[]
  cf := some (fileOf pool7 1 #[] #[] 1537 3 #[] #[])
  fields := #[]
  methods := #[]
  instanceTypes := #[]
  staticTypes := #[]
  resolved := Array.replicate 11 none
  statics := none }

def pool8 : Array CpInfo := pool [(1, .class_ 2), (0, u "java/lang/constant/ConstantDesc"), (0, .class_ 4), (0, u "java/lang/Object")] 32

/-- java/lang/constant/ConstantDesc -/
def k8 : Class := { plain "java/lang/constant/ConstantDesc" (some 0) with
  accessFlags := 1537
  interfaces := #[]
  cf := some (fileOf pool8 1 #[] #[] 1537 3 #[] #[])
  fields := #[]
  methods := #[]
  instanceTypes := #[]
  staticTypes := #[]
  resolved := Array.replicate 37 none
  statics := none }

def pool9 : Array CpInfo := pool [(1, .methodref 2 3), (0, .class_ 4), (0, .nameAndType 5 6), (0, u "java/lang/Object"), (0, u "<init>"), (0, u "()V"), (0, .string 8), (0, u ""), (0, .fieldref 10 11), (0, .class_ 12), (0, .nameAndType 13 14), (0, u "java/lang/String"), (0, u "value"), (0, u "[B"), (0, .fieldref 10 16), (0, .nameAndType 17 18), (0, u "coder"), (0, u "B"), (2, u "hash"), (0, u "I"), (2, u "hashIsZero"), (0, u "Z"), (0, .methodref 10 28), (0, .nameAndType 5 29), (0, u "([CIILjava/lang/Void;)V"), (8, .fieldref 10 39), (0, .nameAndType 40 26), (0, u "COMPACT_STRINGS"), (1, .class_ 44), (1, u "java/lang/StringUTF16"), (0, u "compress"), (1, .methodref 42 48), (0, .nameAndType 49 50), (0, u "coderFromArrayLen"), (0, u "([BI)B"), (56, .class_ 109), (1, u "java/lang/StringLatin1"), (32, u "()Z"), (34, .methodref 42 178), (0, .nameAndType 45 179), (0, u "([CII)[B"), (154, u "()I"), (0, .methodref 10 336), (0, .nameAndType 17 337), (0, u "()B"), (154, .methodref 10 493), (0, .nameAndType 494 142), (0, u "isLatin1"), (10, .methodref 10 506), (0, .nameAndType 507 334), (0, u "length"), (67, .class_ 576), (0, u "java/lang/CharSequence"), (22, u "CASE_INSENSITIVE_ORDER"), (0, u "Ljava/util/Comparator;"), (32, .methodref 10 634), (0, .nameAndType 635 636), (0, u "indexOf"), (0, u "(II)I"), (0, .methodref 107 638), (0, .nameAndType 635 639), (0, u "([BIII)I"), (125, u "(I)I"), (244, u "([C)V"), (90, u "serialPersistentFields"), (0, u "[Ljava/io/ObjectStreamField;"), (0, .class_ 1104), (0, u "java/lang/String$CaseInsensitiveComparator"), (1, .class_ 1107), (0, u "java/io/Serializable"), (0, .class_ 1109), (0, u "java/lang/Comparable"), (0, .class_ 1111), (0, u "java/lang/constant/Constable"), (0, .class_ 1113), (0, u "java/lang/constant/ConstantDesc"), (2, u "serialVersionUID"), (0, u "J"), (3, u "REPL"), (0, u "C"), (2, u "LATIN1"), (1, u "UTF16")] 323

def k9m0 : Method := { name := "<init>", desc := "()V", sig := { parameters := [], returnType := none }, accessFlags := 1, code := none }
def k9c1 : Code := { maxStack := 5, maxLocals := 2, code := jdk_42_method_3_code, exceptionTable := #[], attributes := #[] }
def k9m1 : Method := { name := "<init>", desc := "([C)V", sig := { parameters := [(.array .char)], returnType := none }, accessFlags := 1, code := some k9c1 }
def k9c2 : Code := { maxStack := 2, maxLocals := 1, code := jdk_42_method_54_code, exceptionTable := #[], attributes := #[] }
def k9m2 : Method := { name := "length", desc := "()I", sig := { parameters := [], returnType := some .int }, accessFlags := 1, code := some k9c2 }
def k9c3 : Code := { maxStack := 3, maxLocals := 2, code := jdk_42_method_79_code, exceptionTable := #[], attributes := #[] }
def k9m3 : Method := { name := "indexOf", desc := "(I)I", sig := { parameters := [.int], returnType := some .int }, accessFlags := 1, code := some k9c3 }
def k9c4 : Code := { maxStack := 4, maxLocals := 3, code := jdk_42_method_80_code, exceptionTable := #[], attributes := #[] }
def k9m4 : Method := { name := "indexOf", desc := "(II)I", sig := { parameters := [.int, .int], returnType := some .int }, accessFlags := 1, code := some k9c4 }
def k9c5 : Code := { maxStack := 4, maxLocals := 6, code := jdk_42_method_149_code, exceptionTable := #[], attributes := #[] }
def k9m5 : Method := { name := "<init>", desc := "([CIILjava/lang/Void;)V", sig := { parameters := [(.array .char), .int, .int, (.object "java/lang/Void")], returnType := none }, accessFlags := 2, code := some k9c5 }
def k9c6 : Code := { maxStack := 1, maxLocals := 1, code := jdk_42_method_152_code, exceptionTable := #[], attributes := #[] }
def k9m6 : Method := { name := "coder", desc := "()B", sig := { parameters := [], returnType := some .byte }, accessFlags := 0, code := some k9c6 }
def k9c7 : Code := { maxStack := 1, maxLocals := 1, code := jdk_42_method_154_code, exceptionTable := #[], attributes := #[] }
def k9m7 : Method := { name := "isLatin1", desc := "()Z", sig := { parameters := [], returnType := some .boolean }, accessFlags := 0, code := some k9c7 }
/-- java/lang/String -/
def k9 : Class := { plain "java/lang/String" (some 0) with
  accessFlags := 49
  interfaces := #[4, 5, 6, 7, 8]
  cf := some (fileOf pool9 10 #[.nestMembers #[1103]] #[{ accessFlags := 1, nameIndex := 5, descriptorIndex := 6, attributes := #[] }, { accessFlags := 1, nameIndex := 5, descriptorIndex := 1010, attributes := #[] }, { accessFlags := 1, nameIndex := 507, descriptorIndex := 334, attributes := #[] }, { accessFlags := 1, nameIndex := 635, descriptorIndex := 765, attributes := #[] }, { accessFlags := 1, nameIndex := 635, descriptorIndex := 636, attributes := #[] }, { accessFlags := 2, nameIndex := 5, descriptorIndex := 29, attributes := #[] }, { accessFlags := 0, nameIndex := 17, descriptorIndex := 337, attributes := #[] }, { accessFlags := 0, nameIndex := 494, descriptorIndex := 142, attributes := #[] }] 49 2 #[1106, 1108, 575, 1110, 1112] #[{ accessFlags := 18, nameIndex := 13, descriptorIndex := 14, attributes := #[] }, { accessFlags := 18, nameIndex := 17, descriptorIndex := 18, attributes := #[] }, { accessFlags := 2, nameIndex := 21, descriptorIndex := 22, attributes := #[] }, { accessFlags := 2, nameIndex := 25, descriptorIndex := 26, attributes := #[] }, { accessFlags := 26, nameIndex := 1116, descriptorIndex := 1117, attributes := #[] }, { accessFlags := 24, nameIndex := 40, descriptorIndex := 26, attributes := #[] }, { accessFlags := 26, nameIndex := 1101, descriptorIndex := 1102, attributes := #[] }, { accessFlags := 26, nameIndex := 1121, descriptorIndex := 1122, attributes := #[] }, { accessFlags := 25, nameIndex := 599, descriptorIndex := 600, attributes := #[] }, { accessFlags := 24, nameIndex := 1125, descriptorIndex := 18, attributes := #[] }, { accessFlags := 24, nameIndex := 1127, descriptorIndex := 18, attributes := #[] }])
  fields := #[{ name := "value", type := (.array .byte), accessFlags := 18, slot := 0, constantValue := 0 }, { name := "coder", type := .byte, accessFlags := 18, slot := 1, constantValue := 0 }, { name := "hash", type := .int, accessFlags := 2, slot := 2, constantValue := 0 }, { name := "hashIsZero", type := .boolean, accessFlags := 2, slot := 3, constantValue := 0 }, { name := "serialVersionUID", type := .long, accessFlags := 26, slot := 0, constantValue := 0 }, { name := "COMPACT_STRINGS", type := .boolean, accessFlags := 24, slot := 1, constantValue := 0 }, { name := "serialPersistentFields", type := (.array (.object "java/io/ObjectStreamField")), accessFlags := 26, slot := 2, constantValue := 0 }, { name := "REPL", type := .char, accessFlags := 26, slot := 3, constantValue := 0 }, { name := "CASE_INSENSITIVE_ORDER", type := (.object "java/util/Comparator"), accessFlags := 25, slot := 4, constantValue := 0 }, { name := "LATIN1", type := .byte, accessFlags := 24, slot := 5, constantValue := 0 }, { name := "UTF16", type := .byte, accessFlags := 24, slot := 6, constantValue := 0 }]
  methods := #[k9m0, k9m1, k9m2, k9m3, k9m4, k9m5, k9m6, k9m7]
  instanceTypes := #[(.array .byte), .byte, .int, .boolean]
  staticTypes := #[.long, .boolean, (.array (.object "java/io/ObjectStreamField")), .char, (.object "java/util/Comparator"), .byte, .byte]
  resolved := Array.replicate 1451 none
  statics := some 0 }

def pool10 : Array CpInfo := pool [(4, .class_ 6), (1, u "java/lang/Object"), (0, u "<init>"), (0, u "()V"), (5, .class_ 16), (1, u "java/lang/StringLatin1"), (21, .methodref 39 40), (0, .class_ 41), (0, .nameAndType 42 43), (0, u "java/lang/Math"), (0, u "min"), (0, u "(II)I"), (44, .methodref 14 89), (0, .nameAndType 90 91), (0, u "canEncode"), (0, u "(I)Z"), (0, .methodref 39 93), (0, .nameAndType 94 43), (0, u "max"), (0, .methodref 14 96), (0, .nameAndType 97 98), (0, u "indexOfChar"), (0, u "([BIII)I"), (2, u "indexOf"), (19, u "$assertionsDisabled"), (0, u "Z"), (98, .class_ 223), (1, u "java/lang/StringLatin1$LinesSpliterator"), (166, .class_ 391), (0, u "java/lang/StringLatin1$CharsSpliterator")] 3

def k10m0 : Method := { name := "<init>", desc := "()V", sig := { parameters := [], returnType := none }, accessFlags := 0, code := none }
def k10c1 : Code := { maxStack := 2, maxLocals := 1, code := jdk_43_method_4_code, exceptionTable := #[], attributes := #[] }
def k10m1 : Method := { name := "canEncode", desc := "(I)Z", sig := { parameters := [.int], returnType := some .boolean }, accessFlags := 9, code := some k10c1 }
def k10c2 : Code := { maxStack := 4, maxLocals := 4, code := jdk_43_method_22_code, exceptionTable := #[], attributes := #[] }
def k10m2 : Method := { name := "indexOf", desc := "([BIII)I", sig := { parameters := [(.array .byte), .int, .int, .int], returnType := some .int }, accessFlags := 9, code := some k10c2 }
def k10c3 : Code := { maxStack := 2, maxLocals := 6, code := jdk_43_method_23_code, exceptionTable := #[], attributes := #[] }
def k10m3 : Method := { name := "indexOfChar", desc := "([BIII)I", sig := { parameters := [(.array .byte), .int, .int, .int], returnType := some .int }, accessFlags := 10, code := some k10c3 }
/-- java/lang/StringLatin1 -/
def k10 : Class := { plain "java/lang/StringLatin1" (some 0) with
  accessFlags := 48
  interfaces := #[]
  cf := some (fileOf pool10 14 #[.nestMembers #[390, 221]] #[{ accessFlags := 0, nameIndex := 7, descriptorIndex := 8, attributes := #[] }, { accessFlags := 9, nameIndex := 90, descriptorIndex := 91, attributes := #[] }, { accessFlags := 9, nameIndex := 101, descriptorIndex := 98, attributes := #[] }, { accessFlags := 10, nameIndex := 97, descriptorIndex := 98, attributes := #[] }] 48 4 #[] #[{ accessFlags := 4120, nameIndex := 121, descriptorIndex := 122, attributes := #[] }])
  fields := #[{ name := "$assertionsDisabled", type := .boolean, accessFlags := 4120, slot := 0, constantValue := 0 }]
  methods := #[k10m0, k10m1, k10m2, k10m3]
  instanceTypes := #[]
  staticTypes := #[.boolean]
  resolved := Array.replicate 395 none
  statics := none }

def pool11 : Array CpInfo := pool [(1, .class_ 2), (0, u "java/lang/Math"), (1, .class_ 6), (1, u "java/lang/Object"), (0, u "<init>"), (0, u "()V"), (89, .class_ 100), (1, u "java/lang/Math$RandomNumberGeneratorHolder"), (71, u "negativeZeroFloatBits"), (0, u "J"), (2, u "negativeZeroDoubleBits"), (21, u "max"), (2, u "min"), (43, u "$assertionsDisabled"), (0, u "Z"), (88, u "(II)I"), (2, u "twoToTheDoubleScaleDown"), (0, u "D"), (4, u "twoToTheDoubleScaleUp"), (9, u "E"), (3, u "PI"), (2, u "TAU"), (2, u "DEGREES_TO_RADIANS"), (0, u "RADIANS_TO_DEGREES")] 94

def k11m0 : Method := { name := "<init>", desc := "()V", sig := { parameters := [], returnType := none }, accessFlags := 2, code := none }
def k11c1 : Code := { maxStack := 2, maxLocals := 2, code := jdk_29_method_65_code, exceptionTable := #[], attributes := #[] }
def k11m1 : Method := { name := "max", desc := "(II)I", sig := { parameters := [.int, .int], returnType := some .int }, accessFlags := 9, code := some k11c1 }
def k11c2 : Code := { maxStack := 2, maxLocals := 2, code := jdk_29_method_69_code, exceptionTable := #[], attributes := #[] }
def k11m2 : Method := { name := "min", desc := "(II)I", sig := { parameters := [.int, .int], returnType := some .int }, accessFlags := 9, code := some k11c2 }
/-- java/lang/Math -/
def k11 : Class := { plain "java/lang/Math" (some 0) with
  accessFlags := 49
  interfaces := #[]
  cf := some (fileOf pool11 1 #[.nestMembers #[98]] #[{ accessFlags := 2, nameIndex := 7, descriptorIndex := 8, attributes := #[] }, { accessFlags := 9, nameIndex := 198, descriptorIndex := 335, attributes := #[] }, { accessFlags := 9, nameIndex := 201, descriptorIndex := 335, attributes := #[] }] 49 4 #[] #[{ accessFlags := 25, nameIndex := 354, descriptorIndex := 339, attributes := #[] }, { accessFlags := 25, nameIndex := 358, descriptorIndex := 339, attributes := #[] }, { accessFlags := 25, nameIndex := 361, descriptorIndex := 339, attributes := #[] }, { accessFlags := 26, nameIndex := 364, descriptorIndex := 339, attributes := #[] }, { accessFlags := 26, nameIndex := 365, descriptorIndex := 339, attributes := #[] }, { accessFlags := 26, nameIndex := 172, descriptorIndex := 173, attributes := #[] }, { accessFlags := 26, nameIndex := 176, descriptorIndex := 173, attributes := #[] }, { accessFlags := 8, nameIndex := 344, descriptorIndex := 339, attributes := #[] }, { accessFlags := 8, nameIndex := 338, descriptorIndex := 339, attributes := #[] }, { accessFlags := 4120, nameIndex := 245, descriptorIndex := 246, attributes := #[] }])
  fields := #[{ name := "E", type := .double, accessFlags := 25, slot := 0, constantValue := 0 }, { name := "PI", type := .double, accessFlags := 25, slot := 1, constantValue := 0 }, { name := "TAU", type := .double, accessFlags := 25, slot := 2, constantValue := 0 }, { name := "DEGREES_TO_RADIANS", type := .double, accessFlags := 26, slot := 3, constantValue := 0 }, { name := "RADIANS_TO_DEGREES", type := .double, accessFlags := 26, slot := 4, constantValue := 0 }, { name := "negativeZeroFloatBits", type := .long, accessFlags := 26, slot := 5, constantValue := 0 }, { name := "negativeZeroDoubleBits", type := .long, accessFlags := 26, slot := 6, constantValue := 0 }, { name := "twoToTheDoubleScaleUp", type := .double, accessFlags := 8, slot := 7, constantValue := 0 }, { name := "twoToTheDoubleScaleDown", type := .double, accessFlags := 8, slot := 8, constantValue := 0 }, { name := "$assertionsDisabled", type := .boolean, accessFlags := 4120, slot := 9, constantValue := 0 }]
  methods := #[k11m0, k11m1, k11m2]
  instanceTypes := #[]
  staticTypes := #[.double, .double, .double, .double, .double, .long, .long, .double, .double, .boolean]
  resolved := Array.replicate 460 none
  statics := none }

def pool12 : Array CpInfo := pool [(6, .class_ 8), (1, u "java/lang/Object"), (0, u "<init>"), (0, u "()V"), (1, .class_ 14), (1, u "java/lang/StringUTF16"), (31, u "$assertionsDisabled"), (0, u "Z"), (13, u "HI_BYTE_SHIFT"), (0, u "I"), (2, u "LO_BYTE_SHIFT"), (49, .methodref 12 116), (0, .nameAndType 117 118), (0, u "compress"), (0, u "([CI[BII)I"), (3, u "([CII)[B"), (138, u "coderFromArrayLen"), (0, u "([BI)B"), (106, .class_ 371), (1, u "java/lang/StringUTF16$LinesSpliterator"), (58, u "MAX_LENGTH"), (196, .class_ 628), (0, u "java/lang/StringUTF16$CodePointsSpliterator"), (0, .class_ 630), (0, u "java/lang/StringUTF16$CharsSpliterator")] 4

def k12m0 : Method := { name := "<init>", desc := "()V", sig := { parameters := [], returnType := none }, accessFlags := 0, code := none }
def k12c1 : Code := { maxStack := 2, maxLocals := 2, code := jdk_52_method_15_code, exceptionTable := #[], attributes := #[] }
def k12m1 : Method := { name := "coderFromArrayLen", desc := "([BI)B", sig := { parameters := [(.array .byte), .int], returnType := some .byte }, accessFlags := 8, code := some k12c1 }
def k12c2 : Code := { maxStack := 5, maxLocals := 6, code := jdk_52_method_16_code, exceptionTable := #[], attributes := #[] }
def k12m2 : Method := { name := "compress", desc := "([CII)[B", sig := { parameters := [(.array .char), .int, .int], returnType := some (.array .byte) }, accessFlags := 9, code := some k12c2 }
def k12c3 : Code := { maxStack := 3, maxLocals := 7, code := jdk_52_method_21_code, exceptionTable := #[], attributes := #[] }
def k12m3 : Method := { name := "compress", desc := "([CI[BII)I", sig := { parameters := [(.array .char), .int, (.array .byte), .int, .int], returnType := some .int }, accessFlags := 9, code := some k12c3 }
/-- java/lang/StringUTF16 -/
def k12 : Class := { plain "java/lang/StringUTF16" (some 0) with
  accessFlags := 48
  interfaces := #[]
  cf := some (fileOf pool12 12 #[.nestMembers #[627, 629, 369]] #[{ accessFlags := 0, nameIndex := 9, descriptorIndex := 10, attributes := #[] }, { accessFlags := 8, nameIndex := 261, descriptorIndex := 262, attributes := #[] }, { accessFlags := 9, nameIndex := 117, descriptorIndex := 122, attributes := #[] }, { accessFlags := 9, nameIndex := 117, descriptorIndex := 118, attributes := #[] }] 48 6 #[] #[{ accessFlags := 26, nameIndex := 61, descriptorIndex := 62, attributes := #[] }, { accessFlags := 26, nameIndex := 65, descriptorIndex := 62, attributes := #[] }, { accessFlags := 24, nameIndex := 430, descriptorIndex := 62, attributes := #[] }, { accessFlags := 4120, nameIndex := 46, descriptorIndex := 47, attributes := #[] }])
  fields := #[{ name := "HI_BYTE_SHIFT", type := .int, accessFlags := 26, slot := 0, constantValue := 0 }, { name := "LO_BYTE_SHIFT", type := .int, accessFlags := 26, slot := 1, constantValue := 0 }, { name := "MAX_LENGTH", type := .int, accessFlags := 24, slot := 2, constantValue := 0 }, { name := "$assertionsDisabled", type := .boolean, accessFlags := 4120, slot := 3, constantValue := 0 }]
  methods := #[k12m0, k12m1, k12m2, k12m3]
  instanceTypes := #[]
  staticTypes := #[.int, .int, .int, .boolean]
  resolved := Array.replicate 635 none
  statics := none }

def pool13 : Array CpInfo := pool [(2, .class_ 4), (1, u "java/lang/Object"), (0, u "<init>"), (0, u "()V"), (17, .class_ 26), (1, u "jdk/internal/util/Preconditions"), (28, .class_ 56), (0, u "jdk/internal/util/Preconditions$4"), (57, .class_ 115), (0, u "jdk/internal/util/Preconditions$1"), (7, u "SIOOBE_FORMATTER"), (0, u "Ljava/util/function/BiFunction;"), (0, .class_ 126), (0, u "jdk/internal/util/Preconditions$2"), (3, u "AIOOBE_FORMATTER"), (0, .class_ 132), (0, u "jdk/internal/util/Preconditions$3"), (3, u "IOOBE_FORMATTER")] 57

def k13m0 : Method := { name := "<init>", desc := "()V", sig := { parameters := [], returnType := none }, accessFlags := 1, code := none }
/-- jdk/internal/util/Preconditions -/
def k13 : Class := { plain "jdk/internal/util/Preconditions" (some 0) with
  accessFlags := 33
  interfaces := #[]
  cf := some (fileOf pool13 24 #[.nestMembers #[55, 131, 125, 114]] #[{ accessFlags := 1, nameIndex := 5, descriptorIndex := 6, attributes := #[] }] 33 2 #[] #[{ accessFlags := 25, nameIndex := 123, descriptorIndex := 124, attributes := #[] }, { accessFlags := 25, nameIndex := 130, descriptorIndex := 124, attributes := #[] }, { accessFlags := 25, nameIndex := 136, descriptorIndex := 124, attributes := #[] }])
  fields := #[{ name := "SIOOBE_FORMATTER", type := (.object "java/util/function/BiFunction"), accessFlags := 25, slot := 0, constantValue := 0 }, { name := "AIOOBE_FORMATTER", type := (.object "java/util/function/BiFunction"), accessFlags := 25, slot := 1, constantValue := 0 }, { name := "IOOBE_FORMATTER", type := (.object "java/util/function/BiFunction"), accessFlags := 25, slot := 2, constantValue := 0 }]
  methods := #[k13m0]
  instanceTypes := #[]
  staticTypes := #[(.object "java/util/function/BiFunction"), (.object "java/util/function/BiFunction"), (.object "java/util/function/BiFunction")]
  resolved := Array.replicate 194 none
  statics := some 1 }

def pool14 : Array CpInfo := pool [(9, u "<init>"), (6, .class_ 18), (1, u "java/lang/Object"), (0, u "()V"), (1, .class_ 23), (1, u "jdk/internal/util/ArraysSupport"), (0, u "LOG2_ARRAY_LONG_INDEX_SCALE"), (0, u "I"), (2, u "U"), (0, u "Ljdk/internal/misc/Unsafe;"), (8, u "BIG_ENDIAN"), (0, u "Z"), (8, u "LOG2_BYTE_BIT_SIZE"), (4, u "LOG2_ARRAY_INT_INDEX_SCALE"), (54, u "JLA"), (0, u "Ljdk/internal/access/JavaLangAccess;"), (11, u "LOG2_ARRAY_BOOLEAN_INDEX_SCALE"), (9, u "LOG2_ARRAY_BYTE_INDEX_SCALE"), (5, u "LOG2_ARRAY_CHAR_INDEX_SCALE"), (5, u "LOG2_ARRAY_SHORT_INDEX_SCALE"), (18, u "LOG2_ARRAY_FLOAT_INDEX_SCALE"), (24, u "LOG2_ARRAY_DOUBLE_INDEX_SCALE"), (89, u "T_BOOLEAN"), (2, u "T_CHAR"), (1, u "T_FLOAT"), (1, u "T_DOUBLE"), (1, u "T_BYTE"), (1, u "T_SHORT"), (1, u "T_INT"), (1, u "T_LONG"), (1, u "SOFT_MAX_ARRAY_LENGTH")] 83

def k14m0 : Method := { name := "<init>", desc := "()V", sig := { parameters := [], returnType := none }, accessFlags := 2, code := none }
/-- jdk/internal/util/ArraysSupport -/
def k14 : Class := { plain "jdk/internal/util/ArraysSupport" (some 0) with
  accessFlags := 33
  interfaces := #[]
  cf := some (fileOf pool14 21 #[] #[{ accessFlags := 2, nameIndex := 9, descriptorIndex := 19, attributes := #[] }] 33 16 #[] #[{ accessFlags := 24, nameIndex := 28, descriptorIndex := 29, attributes := #[] }, { accessFlags := 26, nameIndex := 38, descriptorIndex := 39, attributes := #[] }, { accessFlags := 25, nameIndex := 121, descriptorIndex := 25, attributes := #[] }, { accessFlags := 25, nameIndex := 131, descriptorIndex := 25, attributes := #[] }, { accessFlags := 25, nameIndex := 137, descriptorIndex := 25, attributes := #[] }, { accessFlags := 25, nameIndex := 143, descriptorIndex := 25, attributes := #[] }, { accessFlags := 25, nameIndex := 53, descriptorIndex := 25, attributes := #[] }, { accessFlags := 25, nameIndex := 24, descriptorIndex := 25, attributes := #[] }, { accessFlags := 25, nameIndex := 162, descriptorIndex := 25, attributes := #[] }, { accessFlags := 25, nameIndex := 187, descriptorIndex := 25, attributes := #[] }, { accessFlags := 26, nameIndex := 48, descriptorIndex := 25, attributes := #[] }, { accessFlags := 25, nameIndex := 277, descriptorIndex := 25, attributes := #[] }, { accessFlags := 25, nameIndex := 280, descriptorIndex := 25, attributes := #[] }, { accessFlags := 25, nameIndex := 282, descriptorIndex := 25, attributes := #[] }, { accessFlags := 25, nameIndex := 284, descriptorIndex := 25, attributes := #[] }, { accessFlags := 25, nameIndex := 286, descriptorIndex := 25, attributes := #[] }, { accessFlags := 25, nameIndex := 288, descriptorIndex := 25, attributes := #[] }, { accessFlags := 25, nameIndex := 290, descriptorIndex := 25, attributes := #[] }, { accessFlags := 25, nameIndex := 292, descriptorIndex := 25, attributes := #[] }, { accessFlags := 26, nameIndex := 108, descriptorIndex := 109, attributes := #[] }, { accessFlags := 25, nameIndex := 294, descriptorIndex := 25, attributes := #[] }])
  fields := #[{ name := "U", type := (.object "jdk/internal/misc/Unsafe"), accessFlags := 24, slot := 0, constantValue := 0 }, { name := "BIG_ENDIAN", type := .boolean, accessFlags := 26, slot := 1, constantValue := 0 }, { name := "LOG2_ARRAY_BOOLEAN_INDEX_SCALE", type := .int, accessFlags := 25, slot := 2, constantValue := 0 }, { name := "LOG2_ARRAY_BYTE_INDEX_SCALE", type := .int, accessFlags := 25, slot := 3, constantValue := 0 }, { name := "LOG2_ARRAY_CHAR_INDEX_SCALE", type := .int, accessFlags := 25, slot := 4, constantValue := 0 }, { name := "LOG2_ARRAY_SHORT_INDEX_SCALE", type := .int, accessFlags := 25, slot := 5, constantValue := 0 }, { name := "LOG2_ARRAY_INT_INDEX_SCALE", type := .int, accessFlags := 25, slot := 6, constantValue := 0 }, { name := "LOG2_ARRAY_LONG_INDEX_SCALE", type := .int, accessFlags := 25, slot := 7, constantValue := 0 }, { name := "LOG2_ARRAY_FLOAT_INDEX_SCALE", type := .int, accessFlags := 25, slot := 8, constantValue := 0 }, { name := "LOG2_ARRAY_DOUBLE_INDEX_SCALE", type := .int, accessFlags := 25, slot := 9, constantValue := 0 }, { name := "LOG2_BYTE_BIT_SIZE", type := .int, accessFlags := 26, slot := 10, constantValue := 0 }, { name := "T_BOOLEAN", type := .int, accessFlags := 25, slot := 11, constantValue := 0 }, { name := "T_CHAR", type := .int, accessFlags := 25, slot := 12, constantValue := 0 }, { name := "T_FLOAT", type := .int, accessFlags := 25, slot := 13, constantValue := 0 }, { name := "T_DOUBLE", type := .int, accessFlags := 25, slot := 14, constantValue := 0 }, { name := "T_BYTE", type := .int, accessFlags := 25, slot := 15, constantValue := 0 }, { name := "T_SHORT", type := .int, accessFlags := 25, slot := 16, constantValue := 0 }, { name := "T_INT", type := .int, accessFlags := 25, slot := 17, constantValue := 0 }, { name := "T_LONG", type := .int, accessFlags := 25, slot := 18, constantValue := 0 }, { name := "JLA", type := (.object "jdk/internal/access/JavaLangAccess"), accessFlags := 26, slot := 19, constantValue := 0 }, { name := "SOFT_MAX_ARRAY_LENGTH", type := .int, accessFlags := 25, slot := 20, constantValue := 0 }]
  methods := #[k14m0]
  instanceTypes := #[]
  staticTypes := #[(.object "jdk/internal/misc/Unsafe"), .boolean, .int, .int, .int, .int, .int, .int, .int, .int, .int, .int, .int, .int, .int, .int, .int, .int, .int, (.object "jdk/internal/access/JavaLangAccess"), .int]
  resolved := Array.replicate 378 none
  statics := none }

def pool15 : Array CpInfo := pool [(1, u "java/lang/Cloneable"), (0, .class_ 1), (0, u "java/lang/Object"), (0, .class_ 3)] 3

/-- java/lang/Cloneable -/
def k15 : Class := { plain "java/lang/Cloneable" (some 0) with
  accessFlags := 1537
  interfaces := #[]
  cf := some (fileOf pool15 2 #[] #[] 1537 4 #[] #[])
  fields := #[]
  methods := #[]
  instanceTypes := #[]
  staticTypes := #[]
  resolved := Array.replicate 8 none
  statics := none }

/-- the primitive byte -/
def k16 : Class := { plain "byte" none with kind := .primitive 'B', accessFlags := 0x411 }
/-- [B -/
def k17 : Class := { plain "[B" (some 0) with kind := .array 16 .byte, interfaces := #[15, 4], accessFlags := 1041 }

/-- the primitive char -/
def k18 : Class := { plain "char" none with kind := .primitive 'C', accessFlags := 0x411 }
/-- [C -/
def k19 : Class := { plain "[C" (some 0) with kind := .array 18 .char, interfaces := #[15, 4], accessFlags := 1041 }

def heap : Heap := #[{ cls := 9, slots := #[.long 0, .int 1, .null, .int 0, .null, .int 0, .int 0], vm := .statics 9 },
  { cls := 13, slots := #[.null, .null, .null], vm := .statics 13 }]
def classes : Array Class := #[k0, k1, k2, k3, k4, k5, k6, k7, k8, k9, k10, k11, k12, k13, k14, k15, k16, k17, k18, k19]
def interned : List (Array UInt16 × Addr) := []
def slotsUsed : Nat := 10
def theMethod : MethodId := ⟨1, 1⟩
def args0 : Array Value := #[.int 0, .int 0, .int 0, .int 0]
def aboutOver (below : List Frame) : State where
  vm := { classes := classes, interned := interned.toArray }
  heap := heap
  slotsUsed := slotsUsed
  threads := #[{ frames := .invoking theMethod args0 :: below }]
def below0 : List Frame := [.native { method := ⟨0, 0⟩, args := #[] }]
def about1 : State := aboutOver below0
def p0 : Program := .bare "" "" ""
def e0 : Env := launch0.env 0 0 0
theorem w_frames : about1.frames = Frame.invoking theMethod args0 :: below0 := rfl
set_option maxRecDepth 65536 in
theorem w_args : argsFit about1.vm theMethod args0 = true := by decide +kernel
set_option maxRecDepth 65536 in
theorem w_heap : heapFits about1 = true := by decide +kernel
set_option maxRecDepth 65536 in
theorem w_runnable : about1.curStatus? = some .runnable := by decide +kernel
set_option maxRecDepth 65536 in
theorem w_alone : about1.alone = true := by decide +kernel
set_option maxRecDepth 65536 in
theorem w_named : about1.methodNamed? x = some theMethod := by decide +kernel
set_option maxRecDepth 65536 in
theorem w_hears : about1.hears theMethod below0 = true := by decide +kernel
set_option maxRecDepth 65536 in
theorem w_ripe : about1.ripe theMethod args0 below0 = true := by decide +kernel
theorem w_running : about1.status = .running := rfl
set_option maxRecDepth 65536 in
theorem w_room : about1.hasRoom e0.platform room_1 = true :=
  launch0.hasRoom_least _ room_1 (by decide +kernel) (by decide +kernel) (by decide +kernel) (by decide +kernel) (by decide +kernel) (by decide +kernel)
theorem allAtoms_all (ts : List Jvm.Cond) (a : Array Jvm.Value) (st : Jvm.State) : (allAtoms ts).before a st = ts.all (fun c => c.before a st) := by
  induction ts with
  | nil => rfl
  | cons c t ih =>
    show (Jvm.Cond.and c (allAtoms t)).before a st = _
    rw [Jvm.Cond.before_and, ih, List.all_cons]
def words1 : List Jvm.Cond := Jvm.Cond.code x code maxLocals ret :: tables_1
/-- a 'code' word, met by the world's own term for the bytes: nothing is compared byte by byte -/
theorem code_word {y : MethodName} {bytes : ByteArray} {mx : Nat} {rt : Option FieldType} {a : Array Value} {s : State} {m : MethodId} {meth : Method} {c : Code} (h1 : s.methodNamed? y = some m) (h2 : s.vm.method? m = some meth) (h3 : meth.code = some c) (h4 : c.code = bytes)
    (h5 : (c.maxLocals == mx && c.exceptionTable.isEmpty && decide (c.maxStack ≤ mostOperands) && decide (meth.sig.returnType = rt) && !meth.locks && decide (parseMethodDescriptor y.desc = some meth.sig)) = true) : (Jvm.Cond.code y bytes mx rt).before a s = true := by
  simp only [Bool.and_eq_true, beq_iff_eq, Bool.not_eq_true', decide_eq_true_eq] at h5
  obtain ⟨⟨⟨⟨⟨g1, g2⟩, g3⟩, g4⟩, g5⟩, g6⟩ := h5
  simp [Cond.before, Cond.holds, Cond.value, h1, h2, h3, h4, g1, g2, g3, g4, g5, g6]
def isCode : Jvm.Cond → Bool
  | .code _ _ _ _ => true
  | _ => false
theorem all_split {L : List Jvm.Cond} {P : Jvm.Cond → Bool} (h1 : L.all (fun c => isCode c || P c) = true) (h2 : ∀ c ∈ L.filter isCode, P c = true) : L.all P = true := by
  refine List.all_eq_true.mpr fun c hc => ?_
  have h := List.all_eq_true.mp h1 c hc
  rcases Bool.eq_false_or_eq_true (isCode c) with hi | hi
  · exact h2 c (List.mem_filter.mpr ⟨hc, hi⟩)
  · simpa [hi] using h
set_option maxRecDepth 65536 in
theorem w_c0 : (Jvm.Cond.code x code maxLocals ret).before args0 about1 = true := code_word (m := ⟨1, 1⟩) (meth := k1m1) (c := k1c1) (by decide +kernel) rfl rfl rfl (by decide +kernel)
set_option maxRecDepth 65536 in
theorem w_c1 : (Jvm.Cond.code ({ cls := x.cls, name := "drawn", desc := "(I)Ljava/lang/String;" } : Jvm.MethodName) method_5_code (2 : Nat) (Option.some (Jvm.ClassFile.FieldType.object "java/lang/String"))).before args0 about1 = true := code_word (m := ⟨1, 4⟩) (meth := k1m4) (c := k1c4) (by decide +kernel) rfl rfl rfl (by decide +kernel)
set_option maxRecDepth 65536 in
theorem w_c2 : (Jvm.Cond.code ({ cls := x.cls, name := "length", desc := "(I)I" } : Jvm.MethodName) method_4_code (1 : Nat) (Option.some Jvm.ClassFile.FieldType.int)).before args0 about1 = true := code_word (m := ⟨1, 3⟩) (meth := k1m3) (c := k1c3) (by decide +kernel) rfl rfl rfl (by decide +kernel)
set_option maxRecDepth 65536 in
theorem w_c3 : (Jvm.Cond.code ({ cls := "java/lang/String", name := "<init>", desc := "([C)V" } : Jvm.MethodName) jdk_42_method_3_code (2 : Nat) (Option.none : Option Jvm.ClassFile.FieldType)).before args0 about1 = true := code_word (m := ⟨9, 1⟩) (meth := k9m1) (c := k9c1) (by decide +kernel) rfl rfl rfl (by decide +kernel)
set_option maxRecDepth 65536 in
theorem w_c4 : (Jvm.Cond.code ({ cls := "java/lang/String", name := "<init>", desc := "([CIILjava/lang/Void;)V" } : Jvm.MethodName) jdk_42_method_149_code (6 : Nat) (Option.none : Option Jvm.ClassFile.FieldType)).before args0 about1 = true := code_word (m := ⟨9, 5⟩) (meth := k9m5) (c := k9c5) (by decide +kernel) rfl rfl rfl (by decide +kernel)
set_option maxRecDepth 65536 in
theorem w_c5 : (Jvm.Cond.code ({ cls := "java/lang/Object", name := "<init>", desc := "()V" } : Jvm.MethodName) object_method_1_code (1 : Nat) (Option.none : Option Jvm.ClassFile.FieldType)).before args0 about1 = true := code_word (m := ⟨0, 0⟩) (meth := k0m0) (c := k0c0) (by decide +kernel) rfl rfl rfl (by decide +kernel)
set_option maxRecDepth 65536 in
theorem w_c6 : (Jvm.Cond.code ({ cls := site_20.cls, name := "<init>", desc := "(Ljava/lang/String;Ljava/lang/String;Ljava/lang/String;Ljava/lang/String;)V" } : Jvm.MethodName) prog_105_method_1_code (5 : Nat) (Option.none : Option Jvm.ClassFile.FieldType)).before args0 about1 = true := code_word (m := ⟨3, 0⟩) (meth := k3m0) (c := k3c0) (by decide +kernel) rfl rfl rfl (by decide +kernel)
set_option maxRecDepth 65536 in
theorem w_c7 : (Jvm.Cond.code ({ cls := "java/lang/Record", name := "<init>", desc := "()V" } : Jvm.MethodName) jdk_30_method_1_code (1 : Nat) (Option.none : Option Jvm.ClassFile.FieldType)).before args0 about1 = true := code_word (m := ⟨2, 0⟩) (meth := k2m0) (c := k2c0) (by decide +kernel) rfl rfl rfl (by decide +kernel)
set_option maxRecDepth 65536 in
theorem w_c8 : (Jvm.Cond.code ({ cls := x.cls, name := "noMark", desc := "(I)Z" } : Jvm.MethodName) method_6_code (5 : Nat) (Option.some Jvm.ClassFile.FieldType.boolean)).before args0 about1 = true := code_word (m := ⟨1, 5⟩) (meth := k1m5) (c := k1c5) (by decide +kernel) rfl rfl rfl (by decide +kernel)
set_option maxRecDepth 65536 in
theorem w_c9 : (Jvm.Cond.code ({ cls := site_20.cls, name := "isClean", desc := "()Z" } : Jvm.MethodName) prog_105_method_2_code (1 : Nat) (Option.some Jvm.ClassFile.FieldType.boolean)).before args0 about1 = true := code_word (m := ⟨3, 1⟩) (meth := k3m1) (c := k3c1) (by decide +kernel) rfl rfl rfl (by decide +kernel)
set_option maxRecDepth 65536 in
theorem w_c10 : (Jvm.Cond.code ({ cls := "java/lang/String", name := "indexOf", desc := "(I)I" } : Jvm.MethodName) jdk_42_method_79_code (2 : Nat) (Option.some Jvm.ClassFile.FieldType.int)).before args0 about1 = true := code_word (m := ⟨9, 3⟩) (meth := k9m3) (c := k9c3) (by decide +kernel) rfl rfl rfl (by decide +kernel)
set_option maxRecDepth 65536 in
theorem w_c11 : (Jvm.Cond.code ({ cls := "java/lang/String", name := "indexOf", desc := "(II)I" } : Jvm.MethodName) jdk_42_method_80_code (3 : Nat) (Option.some Jvm.ClassFile.FieldType.int)).before args0 about1 = true := code_word (m := ⟨9, 4⟩) (meth := k9m4) (c := k9c4) (by decide +kernel) rfl rfl rfl (by decide +kernel)
set_option maxRecDepth 65536 in
theorem w_c12 : (Jvm.Cond.code ({ cls := "java/lang/String", name := "isLatin1", desc := "()Z" } : Jvm.MethodName) jdk_42_method_154_code (1 : Nat) (Option.some Jvm.ClassFile.FieldType.boolean)).before args0 about1 = true := code_word (m := ⟨9, 7⟩) (meth := k9m7) (c := k9c7) (by decide +kernel) rfl rfl rfl (by decide +kernel)
set_option maxRecDepth 65536 in
theorem w_c13 : (Jvm.Cond.code ({ cls := "java/lang/String", name := "length", desc := "()I" } : Jvm.MethodName) jdk_42_method_54_code (1 : Nat) (Option.some Jvm.ClassFile.FieldType.int)).before args0 about1 = true := code_word (m := ⟨9, 2⟩) (meth := k9m2) (c := k9c2) (by decide +kernel) rfl rfl rfl (by decide +kernel)
set_option maxRecDepth 65536 in
theorem w_c14 : (Jvm.Cond.code ({ cls := "java/lang/String", name := "coder", desc := "()B" } : Jvm.MethodName) jdk_42_method_152_code (1 : Nat) (Option.some Jvm.ClassFile.FieldType.byte)).before args0 about1 = true := code_word (m := ⟨9, 6⟩) (meth := k9m6) (c := k9c6) (by decide +kernel) rfl rfl rfl (by decide +kernel)
set_option maxRecDepth 65536 in
theorem w_c15 : (Jvm.Cond.code ({ cls := "java/lang/StringLatin1", name := "indexOf", desc := "([BIII)I" } : Jvm.MethodName) jdk_43_method_22_code (4 : Nat) (Option.some Jvm.ClassFile.FieldType.int)).before args0 about1 = true := code_word (m := ⟨10, 2⟩) (meth := k10m2) (c := k10c2) (by decide +kernel) rfl rfl rfl (by decide +kernel)
set_option maxRecDepth 65536 in
theorem w_c16 : (Jvm.Cond.code ({ cls := "java/lang/StringLatin1", name := "canEncode", desc := "(I)Z" } : Jvm.MethodName) jdk_43_method_4_code (1 : Nat) (Option.some Jvm.ClassFile.FieldType.boolean)).before args0 about1 = true := code_word (m := ⟨10, 1⟩) (meth := k10m1) (c := k10c1) (by decide +kernel) rfl rfl rfl (by decide +kernel)
set_option maxRecDepth 65536 in
theorem w_c17 : (Jvm.Cond.code ({ cls := "java/lang/Math", name := "max", desc := "(II)I" } : Jvm.MethodName) jdk_29_method_65_code (2 : Nat) (Option.some Jvm.ClassFile.FieldType.int)).before args0 about1 = true := code_word (m := ⟨11, 1⟩) (meth := k11m1) (c := k11c1) (by decide +kernel) rfl rfl rfl (by decide +kernel)
set_option maxRecDepth 65536 in
theorem w_c18 : (Jvm.Cond.code ({ cls := "java/lang/Math", name := "min", desc := "(II)I" } : Jvm.MethodName) jdk_29_method_69_code (2 : Nat) (Option.some Jvm.ClassFile.FieldType.int)).before args0 about1 = true := code_word (m := ⟨11, 2⟩) (meth := k11m2) (c := k11c2) (by decide +kernel) rfl rfl rfl (by decide +kernel)
set_option maxRecDepth 65536 in
theorem w_c19 : (Jvm.Cond.code ({ cls := x.cls, name := "at", desc := "(II)C" } : Jvm.MethodName) method_3_code (2 : Nat) (Option.some Jvm.ClassFile.FieldType.char)).before args0 about1 = true := code_word (m := ⟨1, 2⟩) (meth := k1m2) (c := k1c2) (by decide +kernel) rfl rfl rfl (by decide +kernel)
set_option maxRecDepth 65536 in
theorem w_c20 : (Jvm.Cond.code ({ cls := "java/lang/StringUTF16", name := "compress", desc := "([CII)[B" } : Jvm.MethodName) jdk_52_method_16_code (6 : Nat) (Option.some (Jvm.ClassFile.FieldType.array Jvm.ClassFile.FieldType.byte))).before args0 about1 = true := code_word (m := ⟨12, 2⟩) (meth := k12m2) (c := k12c2) (by decide +kernel) rfl rfl rfl (by decide +kernel)
set_option maxRecDepth 65536 in
theorem w_c21 : (Jvm.Cond.code ({ cls := "java/lang/StringUTF16", name := "compress", desc := "([CI[BII)I" } : Jvm.MethodName) jdk_52_method_21_code (7 : Nat) (Option.some Jvm.ClassFile.FieldType.int)).before args0 about1 = true := code_word (m := ⟨12, 3⟩) (meth := k12m3) (c := k12c3) (by decide +kernel) rfl rfl rfl (by decide +kernel)
set_option maxRecDepth 65536 in
theorem w_c22 : (Jvm.Cond.code ({ cls := "java/lang/StringUTF16", name := "coderFromArrayLen", desc := "([BI)B" } : Jvm.MethodName) jdk_52_method_15_code (2 : Nat) (Option.some Jvm.ClassFile.FieldType.byte)).before args0 about1 = true := code_word (m := ⟨12, 1⟩) (meth := k12m1) (c := k12c1) (by decide +kernel) rfl rfl rfl (by decide +kernel)
set_option maxRecDepth 65536 in
theorem w_c23 : (Jvm.Cond.code ({ cls := "java/lang/StringLatin1", name := "indexOfChar", desc := "([BIII)I" } : Jvm.MethodName) jdk_43_method_23_code (6 : Nat) (Option.some Jvm.ClassFile.FieldType.int)).before args0 about1 = true := code_word (m := ⟨10, 3⟩) (meth := k10m3) (c := k10c3) (by decide +kernel) rfl rfl rfl (by decide +kernel)
def codes1 : List Jvm.Cond := [Jvm.Cond.code x code maxLocals ret, Jvm.Cond.code ({ cls := x.cls, name := "drawn", desc := "(I)Ljava/lang/String;" } : Jvm.MethodName) method_5_code (2 : Nat) (Option.some (Jvm.ClassFile.FieldType.object "java/lang/String")), Jvm.Cond.code ({ cls := x.cls, name := "length", desc := "(I)I" } : Jvm.MethodName) method_4_code (1 : Nat) (Option.some Jvm.ClassFile.FieldType.int), Jvm.Cond.code ({ cls := "java/lang/String", name := "<init>", desc := "([C)V" } : Jvm.MethodName) jdk_42_method_3_code (2 : Nat) (Option.none : Option Jvm.ClassFile.FieldType), Jvm.Cond.code ({ cls := "java/lang/String", name := "<init>", desc := "([CIILjava/lang/Void;)V" } : Jvm.MethodName) jdk_42_method_149_code (6 : Nat) (Option.none : Option Jvm.ClassFile.FieldType), Jvm.Cond.code ({ cls := "java/lang/Object", name := "<init>", desc := "()V" } : Jvm.MethodName) object_method_1_code (1 : Nat) (Option.none : Option Jvm.ClassFile.FieldType), Jvm.Cond.code ({ cls := site_20.cls, name := "<init>", desc := "(Ljava/lang/String;Ljava/lang/String;Ljava/lang/String;Ljava/lang/String;)V" } : Jvm.MethodName) prog_105_method_1_code (5 : Nat) (Option.none : Option Jvm.ClassFile.FieldType), Jvm.Cond.code ({ cls := "java/lang/Record", name := "<init>", desc := "()V" } : Jvm.MethodName) jdk_30_method_1_code (1 : Nat) (Option.none : Option Jvm.ClassFile.FieldType), Jvm.Cond.code ({ cls := x.cls, name := "noMark", desc := "(I)Z" } : Jvm.MethodName) method_6_code (5 : Nat) (Option.some Jvm.ClassFile.FieldType.boolean), Jvm.Cond.code ({ cls := site_20.cls, name := "isClean", desc := "()Z" } : Jvm.MethodName) prog_105_method_2_code (1 : Nat) (Option.some Jvm.ClassFile.FieldType.boolean), Jvm.Cond.code ({ cls := "java/lang/String", name := "indexOf", desc := "(I)I" } : Jvm.MethodName) jdk_42_method_79_code (2 : Nat) (Option.some Jvm.ClassFile.FieldType.int), Jvm.Cond.code ({ cls := "java/lang/String", name := "indexOf", desc := "(II)I" } : Jvm.MethodName) jdk_42_method_80_code (3 : Nat) (Option.some Jvm.ClassFile.FieldType.int), Jvm.Cond.code ({ cls := "java/lang/String", name := "isLatin1", desc := "()Z" } : Jvm.MethodName) jdk_42_method_154_code (1 : Nat) (Option.some Jvm.ClassFile.FieldType.boolean), Jvm.Cond.code ({ cls := "java/lang/String", name := "length", desc := "()I" } : Jvm.MethodName) jdk_42_method_54_code (1 : Nat) (Option.some Jvm.ClassFile.FieldType.int), Jvm.Cond.code ({ cls := "java/lang/String", name := "coder", desc := "()B" } : Jvm.MethodName) jdk_42_method_152_code (1 : Nat) (Option.some Jvm.ClassFile.FieldType.byte), Jvm.Cond.code ({ cls := "java/lang/StringLatin1", name := "indexOf", desc := "([BIII)I" } : Jvm.MethodName) jdk_43_method_22_code (4 : Nat) (Option.some Jvm.ClassFile.FieldType.int), Jvm.Cond.code ({ cls := "java/lang/StringLatin1", name := "canEncode", desc := "(I)Z" } : Jvm.MethodName) jdk_43_method_4_code (1 : Nat) (Option.some Jvm.ClassFile.FieldType.boolean), Jvm.Cond.code ({ cls := "java/lang/Math", name := "max", desc := "(II)I" } : Jvm.MethodName) jdk_29_method_65_code (2 : Nat) (Option.some Jvm.ClassFile.FieldType.int), Jvm.Cond.code ({ cls := "java/lang/Math", name := "min", desc := "(II)I" } : Jvm.MethodName) jdk_29_method_69_code (2 : Nat) (Option.some Jvm.ClassFile.FieldType.int), Jvm.Cond.code ({ cls := x.cls, name := "at", desc := "(II)C" } : Jvm.MethodName) method_3_code (2 : Nat) (Option.some Jvm.ClassFile.FieldType.char), Jvm.Cond.code ({ cls := "java/lang/StringUTF16", name := "compress", desc := "([CII)[B" } : Jvm.MethodName) jdk_52_method_16_code (6 : Nat) (Option.some (Jvm.ClassFile.FieldType.array Jvm.ClassFile.FieldType.byte)), Jvm.Cond.code ({ cls := "java/lang/StringUTF16", name := "compress", desc := "([CI[BII)I" } : Jvm.MethodName) jdk_52_method_21_code (7 : Nat) (Option.some Jvm.ClassFile.FieldType.int), Jvm.Cond.code ({ cls := "java/lang/StringUTF16", name := "coderFromArrayLen", desc := "([BI)B" } : Jvm.MethodName) jdk_52_method_15_code (2 : Nat) (Option.some Jvm.ClassFile.FieldType.byte), Jvm.Cond.code ({ cls := "java/lang/StringLatin1", name := "indexOfChar", desc := "([BIII)I" } : Jvm.MethodName) jdk_43_method_23_code (6 : Nat) (Option.some Jvm.ClassFile.FieldType.int)]
set_option maxRecDepth 65536 in
theorem codes_eq : words1.filter isCode = codes1 := rfl
theorem w_codes : ∀ c ∈ words1.filter isCode, c.before args0 about1 = true := by
  rw [codes_eq]
  intro c hc
  simp only [codes1, List.mem_cons, List.not_mem_nil, or_false] at hc
  rcases hc with rfl | rfl | rfl | rfl | rfl | rfl | rfl | rfl | rfl | rfl | rfl | rfl | rfl | rfl | rfl | rfl | rfl | rfl | rfl | rfl | rfl | rfl | rfl | rfl
  · exact w_c0
  · exact w_c1
  · exact w_c2
  · exact w_c3
  · exact w_c4
  · exact w_c5
  · exact w_c6
  · exact w_c7
  · exact w_c8
  · exact w_c9
  · exact w_c10
  · exact w_c11
  · exact w_c12
  · exact w_c13
  · exact w_c14
  · exact w_c15
  · exact w_c16
  · exact w_c17
  · exact w_c18
  · exact w_c19
  · exact w_c20
  · exact w_c21
  · exact w_c22
  · exact w_c23
set_option maxRecDepth 65536 in
theorem w_t1 : (words1.take 24).all (fun c => isCode c || c.before args0 about1) = true := by decide +kernel
set_option maxRecDepth 65536 in
theorem w_t2 : ((words1.drop 24).take 24).all (fun c => isCode c || c.before args0 about1) = true := by decide +kernel
set_option maxRecDepth 65536 in
theorem w_t3 : (((words1.drop 24).drop 24).take 24).all (fun c => isCode c || c.before args0 about1) = true := by decide +kernel
set_option maxRecDepth 65536 in
theorem w_t4 : ((((words1.drop 24).drop 24).drop 24).take 24).all (fun c => isCode c || c.before args0 about1) = true := by decide +kernel
set_option maxRecDepth 65536 in
theorem w_t5 : ((((words1.drop 24).drop 24).drop 24).drop 24).all (fun c => isCode c || c.before args0 about1) = true := by decide +kernel
theorem w_tables : (allAtoms (Jvm.Cond.code x code maxLocals ret :: tables_1)).before args0 about1 = true := by
  rw [allAtoms_all]
  show words1.all (fun c => c.before args0 about1) = true
  refine all_split ?_ w_codes
  rw [← List.take_append_drop 24 words1, List.all_append, w_t1, ← List.take_append_drop 24 (words1.drop 24), List.all_append, w_t2, ← List.take_append_drop 24 ((words1.drop 24).drop 24), List.all_append, w_t3, ← List.take_append_drop 24 (((words1.drop 24).drop 24).drop 24), List.all_append, w_t4, w_t5]
  rfl
set_option maxRecDepth 65536 in
theorem w_rest : rest_1_c.before args0 about1 = true := by decide +kernel
set_option maxRecDepth 65536 in
theorem w_case : (Jvm.Cond.and given_1 narrow_1).before args0 about1 = true := by decide +kernel
set_option maxRecDepth 65536 in
theorem w_consts : constsHeld consts_1 about1 := Jvm.Lit.constsHeldB_iff.mp (by decide +kernel)
theorem w_applies : (headSpec (Jvm.Cond.code x code maxLocals ret :: tables_1) room_1).applies x e0.platform about1 = true :=
  (Spec.applies_iff w_frames).mpr ⟨w_running, w_runnable, w_alone, w_named, w_hears, w_ripe, w_room, w_tables⟩
theorem atStart : AtStart classFile x code maxLocals ret World_1 tables_1 room_1 Calls_1 rest_1 Pre_1 launch0 p0 e0 about1 theMethod args0 below0 :=
  ⟨lists_1, trivial, launch0.admits_env _ _ _, launch0.least_env, fairChoices_fair.cas, fairChoices_fair.clock, w_frames, w_args, w_heap, w_applies, ⟨w_consts, trivial⟩, w_rest, w_case⟩
end start1
theorem witness_1 : WitnessClaimed_1 := ⟨start1.p0, start1.e0, start1.about1, start1.theMethod, start1.args0, start1.below0, start1.atStart⟩
end Jvm.Pilot.@@N@@
