import JvmDerived
import JvmDerived.Pilot.@@N@@Statement
import JvmDerived.Pilot.@@N@@Code
set_option linter.unusedVariables false
set_option linter.unusedSimpArgs false
namespace Jvm.Pilot.@@N@@
open Jvm Jvm.ClassFile Sem Op Lib Jvm.Free Jvm.Stand Jvm.LawKit Jvm.RoadKit Bundle Jvm.Pilot.@@N@@.Jvm.D
abbrev HW (a0 : Array Value) (Z : State) : Prop := ∀ d ∈ tables_1, d.before a0 Z = true
theorem WW {Z : State} {a0 : Array Value} (hw : HW a0 Z) (i : Nat) {d : Jvm.Cond} (h : tables_1[i]? = some d := by rfl) : d.before a0 Z = true := hw _ (List.mem_of_getElem? h)
abbrev VI (x : Int32) : Value := .int x
abbrev VJ (x : Int64) : Value := .long x
abbrev VR (a : Addr) : Value := .ref a
abbrev SI (x : Int32) : Slot := .val (.int x)
abbrev SJ (x : Int64) : Slot := .val (.long x)
abbrev SR (a : Addr) : Slot := .val (.ref a)
abbrev SN : Slot := .val .null
abbrev SU : Slot := .unset
abbrev SS : Slot := .second
/-- from the frame g of T the run comes to an end of which G holds -/
def own_Fin (p : Program) (e : Env) (below : List Frame) (G : State → Outcome → Prop) (T : State) (g : JFrame) : Prop := ∃ U o, Steps p.tables e below (T.setTop g) U ∧ U.status = .running ∧ Ended U below o ∧ G U o
theorem own_go {p : Program} {e : Env} {below : List Frame} {G : State → Outcome → Prop} {T T' : State} {g g' : JFrame} (st : ∀ t, Steps p.tables e below (T'.setTop g') t → Steps p.tables e below (T.setTop g) t) (k : own_Fin p e below G T' g') : own_Fin p e below G T g := by
  obtain ⟨U, o, h1, h2⟩ := k
  exact ⟨U, o, st _ h1, h2⟩
theorem own_start {p : Program} {e : Env} {below : List Frame} {G : State → Outcome → Prop} {T : State} {g g' : JFrame} (q : g = g') (k : own_Fin p e below G T g') : ∃ U o, Steps p.tables e below (T.setTop g) U ∧ U.status = .running ∧ Ended U below o ∧ G U o := by
  subst q; exact k
theorem own_enter {l : Launch} {Z : State} {y : MethodName} {bytes : ByteArray} {maxL : Nat} {ret : Option FieldType} {ws : List Jvm.Cond} {R : Room} {A : Array Value} {h0 : Heap} {n0 : Nat} {Ls : Array Slot} {Q : Array Value → State → Outcome → State → Prop} (hp : plainFor y = true) (ef : ∀ m, entryFrame m A maxL = mkF m 0 Ls [])
    (k : ∀ (p : Program) (e : Env) (s : State) (m : MethodId) (below : List Frame) (meth : Method) (c : Code) (s₁ : State), p.tables.exec = Jvm.exec → c.code = bytes → c.maxLocals = maxL → s.vm.findClass y.cls = some m.cls → meth.name = y.name → meth.sig.returnType = ret → meth.locks = false →
      Stand p l e R s m A below meth c s₁ [] 0 0 → s₁.heap = h0 → Z.Warmed39 s.vm → s.heap = h0 → Fr n0 [] → own_Fin p e below (fun U o => Q A s o U) s₁ (mkF m 0 Ls [])) :
    MetFree l y (head1 (Jvm.Cond.code y bytes maxL ret :: ws) R) (fun a U => a = A ∧ Z.Warmed39 U.vm ∧ U.heap = h0) (fun _ _ _ _ _ => True) Q := by
  refine MetFree.of_bodySF hp hisR ?_
  intro p e s m args below meth c s₁ Bd hml hP hK
  obtain ⟨rfl, hZ, hh⟩ := hP
  exact own_start (ef m) (k p e s m below meth c s₁ Bd.exec Bd.bytes hml (findClass_of_methodNamed Bd.named) (name_of_methodNamed Bd.named Bd.method).1 Bd.returns Bd.notSynchronized (Stand.of_body Bd) (by rw [← hh, Bd.state]; rfl) hZ hh (Fr.nil n0))
theorem own_weak {l : Launch} {y : MethodName} {S : Spec} {P : Array Value → State → Prop} {K : Program → Env → List Frame → State → Array Value → Prop} {Q Q' : Array Value → State → Outcome → State → Prop} (h : MetFree l y S P K Q) (w : ∀ a s o t, Q a s o t → Q' a s o t) : MetFree l y S P K Q' := by
  intro p e ha hc hk s m args below hf happ hP hK
  obtain ⟨n, o, h1, h2, h3, h4⟩ := h p e ha hc hk s m args below hf happ hP hK
  exact ⟨n, o, h1, h2, h3, w _ _ _ _ h4⟩
theorem own_end {p : Program} {e : Env} {below : List Frame} {G : State → Outcome → Prop} {T U : State} {g : JFrame} {o : Outcome} (h1 : Steps p.tables e below (T.setTop g) U) (h2 : U.status = .running) (h3 : Ended U below o) (h4 : G U o) : own_Fin p e below G T g := ⟨U, o, h1, h2, h3, h4⟩
section Calls
variable {p : Program} {l : Launch} {e : Env} {R : Room} {s : State} {m : MethodId} {args : Array Value} {below : List Frame} {meth : Method} {c : Code} {T : State} {locs : List Loc} {cells slots : Nat} {Z : State} {a0 : Array Value} {h : Heap}
abbrev own_In (Z : State) (as' : Array Value) (h : Heap) : Array Value → State → Prop := fun a U => a = as' ∧ Z.Warmed39 U.vm ∧ U.heap = h
abbrev own_Out (Q : Option Value → Heap → List Loc → Prop) (rm : Room) : Array Value → State → Outcome → State → Prop := fun _ U o U' => ∃ v L, o = .returned v ∧ Q v U'.heap L ∧ FrameEnd U o U' L rm.cells rm.slots
abbrev own_OutW (Q : Option Value → Heap → List Loc → Prop) (rm : Room) : Array Value → State → Outcome → State → Prop := fun _ U o U' => ∃ v L, o = .returned v ∧ Q v U'.heap L ∧ ReturnedEndW U o U' L rm.cells rm.slots
abbrev own_np (y : MethodName) : Prop := y.cls ≠ "java/lang/invoke/MethodHandle" ∧ y.cls ≠ "java/lang/invoke/VarHandle"
/-- a static method by its contract -/
theorem own_cS {own : String} {index maxL k W : Nat} {y : MethodName} {bytes : ByteArray} {ret : Option FieldType} {rm : Room} {as' : Array Value} {Q : Option Value → Heap → List Loc → Prop} (X : Stand p l e R s m args below meth c T locs cells slots) (hx : p.tables.exec = Jvm.exec) (hZ : Z.Warmed39 s.vm) (hown : s.vm.findClass own = some m.cls)
    (w1 : (Jvm.Cond.methodLink own index y).before a0 Z = true) (w2 : (Jvm.Cond.static y).before a0 Z = true) (w3 : (Jvm.Cond.initialized y.cls).before a0 Z = true) (w4 : (Jvm.Cond.code y bytes maxL ret).before a0 Z = true)
    (hM : MetFree l y (head1 [Jvm.Cond.code y bytes maxL ret] rm) (own_In Z as' h) (fun _ _ _ _ _ => True) (own_Out Q rm)) (eT : T.heap = h) (hml : c.maxLocals = k) {g : JFrame} {ps : List FieldType} {r : Option FieldType} (hd : parseMethodDescriptor y.desc = some ⟨ps, r⟩) (hdg : decode c.code g.pc = .ok (.invokestatic index, 3)) (argsL rest : List Value)
    (hst : g.stack = argsL.reverse ++ rest := by rfl) (has : argsL.toArray = as' := by rfl) (hg : g.method = m := by rfl) (hsz : g.locals.size = k := by rfl) (hln : argsL.length = ps.length := by rfl) (hy : own_np y := by decide) (hW : 2 * g.monitorRoom + (rest.map fun v => v.category).sum ≤ W := by show 2 * 0 + _ ≤ _; exact Nat.le_of_eq rfl) (hf : rm.frames + 1 ≤ R.frames := by decide) (hl : W + (maxL + 11) + rm.locals ≤ R.locals := by decide) (hc : cells + rm.cells ≤ R.cells := by decide) (hs : slots + rm.slots ≤ R.slots := by decide) :
    ∃ (v : Option Value) (T' : State) (L : List Loc), Stand p l e R s m args below meth c T' (locs ++ L) (cells + rm.cells) (slots + rm.slots) ∧ Q v T'.heap L ∧ ∀ t, Steps p.tables e below (T'.setTop { g with pc := g.pc + 3, stack := v.toList ++ rest }) t → Steps p.tables e below (T.setTop g) t := by
  obtain ⟨v, _, ⟨T', L', k', n'⟩, -, X', ⟨L, hQ, h1, h2, h3⟩, st⟩ := Jvm.LawKit.callS X hx (y := y) hown (mvT hZ w1) (mvT hZ w2) (mvT hZ w3) (mvT hZ w4) hy (backOf (W := W) hM hZ w4 w3 hf hl) (g := g) hg (hsz.trans hml.symm) (argsL := argsL) (rest := rest) (lenOf hd hln) hst hW hdg (fun _ _ => ⟨has, eT, hc, hs⟩)
  dsimp only [Pt.U, Pt.locs, Pt.cells, Pt.slots] at X' h1 h2 h3 st hQ
  subst h1 h2 h3
  exact ⟨v, T', L, X', hQ, st⟩
/-- a constructor by its contract -/
theorem own_cI {own : String} {index maxL k W : Nat} {y : MethodName} {bytes : ByteArray} {rm : Room} {as' : Array Value} {Q : Option Value → Heap → List Loc → Prop} (X : Stand p l e R s m args below meth c T locs cells slots) (hx : p.tables.exec = Jvm.exec) (hZ : Z.Warmed39 s.vm) (hown : s.vm.findClass own = some m.cls)
    (w1 : (Jvm.Cond.methodLink own index y).before a0 Z = true) (w2 : (Jvm.Cond.instanceMethod y).before a0 Z = true) (w3 : (Jvm.Cond.initialized y.cls).before a0 Z = true) (w4 : (Jvm.Cond.code y bytes maxL none).before a0 Z = true)
    (hM : MetFree l y (head1 [Jvm.Cond.code y bytes maxL none] rm) (own_In Z as' h) (fun _ _ _ _ _ => True) (own_Out Q rm)) (eT : T.heap = h) (hml : c.maxLocals = k) {g : JFrame} {ps : List FieldType} {r : Option FieldType} (hd : parseMethodDescriptor y.desc = some ⟨ps, r⟩) (hdg : decode c.code g.pc = .ok (.invokespecial index, 3)) (a : Addr) (argsL rest : List Value)
    (hst : g.stack = argsL.reverse ++ .ref a :: rest := by rfl) (has : (.ref a :: argsL).toArray = as' := by rfl) (hg : g.method = m := by rfl) (hsz : g.locals.size = k := by rfl) (hln : argsL.length = ps.length := by rfl) (hn : y.name = "<init>" := by rfl) (hy : own_np y := by decide) (hW : 2 * g.monitorRoom + (rest.map fun v => v.category).sum ≤ W := by show 2 * 0 + _ ≤ _; exact Nat.le_of_eq rfl) (hf : rm.frames + 1 ≤ R.frames := by decide) (hl : W + (maxL + 11) + rm.locals ≤ R.locals := by decide) (hc : cells + rm.cells ≤ R.cells := by decide) (hs : slots + rm.slots ≤ R.slots := by decide) :
    ∃ (v : Option Value) (T' : State) (L : List Loc), Stand p l e R s m args below meth c T' (locs ++ L) (cells + rm.cells) (slots + rm.slots) ∧ Q v T'.heap L ∧ ∀ t, Steps p.tables e below (T'.setTop { g with pc := g.pc + 3, stack := v.toList ++ rest }) t → Steps p.tables e below (T.setTop g) t := by
  obtain ⟨v, _, ⟨T', L', k', n'⟩, -, X', ⟨L, hQ, h1, h2, h3⟩, st⟩ := X.specialBack hx (y := y) hn hown (mvT hZ w1) (mvT hZ w2) (mvT hZ w4) hy (backOf (W := W) hM hZ w4 w3 hf hl) (g := g) hg (hsz.trans hml.symm) (Steps.refl _) (a := a) (argsL := argsL) (rest := rest) (lenOf hd hln) hst hW hdg (fun _ _ => ⟨has, eT, hc, hs⟩)
  dsimp only [Pt.U, Pt.locs, Pt.cells, Pt.slots] at X' h1 h2 h3 st hQ
  subst h1 h2 h3
  exact ⟨v, T', L, X', hQ, fun t q => st.trans q⟩
/-- an instance method by its contract -/
theorem own_cV {own C : String} {index maxL k W : Nat} {y z : MethodName} {bytes : ByteArray} {ret : Option FieldType} {rm : Room} {as' : Array Value} {Q : Option Value → Heap → List Loc → Prop} (X : Stand p l e R s m args below meth c T locs cells slots) (hx : p.tables.exec = Jvm.exec) (hZ : Z.Warmed39 s.vm) (hown : s.vm.findClass own = some m.cls)
    (w1 : (Jvm.Cond.methodLink own index y).before a0 Z = true) (w2 : (Jvm.Cond.declares y).before a0 Z = true) (nf : NotFace s y) (w5 : (Jvm.Cond.selects C y z).before a0 Z = true) (w6 : (Jvm.Cond.instanceMethod z).before a0 Z = true) (w3 : (Jvm.Cond.initialized z.cls).before a0 Z = true) (w4 : (Jvm.Cond.code z bytes maxL ret).before a0 Z = true)
    (hM : MetFree l z (head1 [Jvm.Cond.code z bytes maxL ret] rm) (own_In Z as' h) (fun _ _ _ _ _ => True) (own_Out Q rm)) (eT : T.heap = h) {b : Addr} (E : Exa Z h b C) (hml : c.maxLocals = k) {g : JFrame} {ps : List FieldType} {r : Option FieldType} (hd : parseMethodDescriptor y.desc = some ⟨ps, r⟩) (hdg : decode c.code g.pc = .ok (.invokevirtual index, 3)) (argsL rest : List Value)
    (hst : g.stack = argsL.reverse ++ .ref b :: rest := by rfl) (has : (.ref b :: argsL).toArray = as' := by rfl) (hg : g.method = m := by rfl) (hsz : g.locals.size = k := by rfl) (hln : argsL.length = ps.length := by rfl) (hy : own_np y := by decide) (hW : 2 * g.monitorRoom + (rest.map fun v => v.category).sum ≤ W := by show 2 * 0 + _ ≤ _; exact Nat.le_of_eq rfl) (hf : rm.frames + 1 ≤ R.frames := by decide) (hl : W + (maxL + 11) + rm.locals ≤ R.locals := by decide) (hc : cells + rm.cells ≤ R.cells := by decide) (hs : slots + rm.slots ≤ R.slots := by decide) :
    ∃ (v : Option Value) (T' : State) (L : List Loc), Stand p l e R s m args below meth c T' (locs ++ L) (cells + rm.cells) (slots + rm.slots) ∧ Q v T'.heap L ∧ ∀ t, Steps p.tables e below (T'.setTop { g with pc := g.pc + 3, stack := v.toList ++ rest }) t → Steps p.tables e below (T.setTop g) t := by
  obtain ⟨cq, kq, qa, qb, qc⟩ := isOf hZ eT E
  obtain ⟨v, _, ⟨T', L', k', n'⟩, -, X', ⟨L, hQ, h1, h2, h3⟩, st⟩ := X.virtualBack hx (y := y) (z := z) hown (mvT hZ w1) (mvT hZ w2) nf (mvT hZ w5) (mvT hZ w6) hy (backOf (W := W) hM hZ w4 w3 hf hl) qa qc (g := g) hg (hsz.trans hml.symm) (Steps.refl _) (argsL := argsL) (rest := rest) (lenOf hd hln) hst hW hdg (fun _ _ => ⟨has, eT, hc, hs⟩)
  dsimp only [Pt.U, Pt.locs, Pt.cells, Pt.slots] at X' h1 h2 h3 st hQ
  subst h1 h2 h3
  exact ⟨v, T', L, X', hQ, fun t q => st.trans q⟩
theorem own_cF {own C : String} {index count maxL k W : Nat} {y z : MethodName} {bytes : ByteArray} {ret : Option FieldType} {rm : Room} {as' : Array Value} {Q : Option Value → Heap → List Loc → Prop} (X : Stand p l e R s m args below meth c T locs cells slots) (hx : p.tables.exec = Jvm.exec) (hZ : Z.Warmed39 s.vm) (hown : s.vm.findClass own = some m.cls)
    (w1 : (Jvm.Cond.methodLink own index y).before a0 Z = true) (w2 : (Jvm.Cond.declares y).before a0 Z = true) (w7 : (Jvm.Cond.interfaceMethod y.cls y.cls y.name y.desc).before args s = true) (w5 : (Jvm.Cond.selects C y z).before a0 Z = true) (w6 : (Jvm.Cond.instanceMethod z).before a0 Z = true) (w8 : (Jvm.Cond.publicMethod z).before a0 Z = true) (w9 : (Jvm.Cond.unhidden C y.name y.desc).before a0 Z = true) (w10 : (Jvm.Cond.castable C y.cls).before a0 Z = true) (w3 : (Jvm.Cond.initialized z.cls).before a0 Z = true) (w4 : (Jvm.Cond.code z bytes maxL ret).before a0 Z = true)
    (hM : MetFree l z (head1 [Jvm.Cond.code z bytes maxL ret] rm) (own_In Z as' h) (fun _ _ _ _ _ => True) (own_Out Q rm)) (eT : T.heap = h) {b : Addr} (E : Exa Z h b C) (hml : c.maxLocals = k) {g : JFrame} {ps : List FieldType} {r : Option FieldType} (hd : parseMethodDescriptor y.desc = some ⟨ps, r⟩) (hdg : decode c.code g.pc = .ok (.invokeinterface index count, 5)) (argsL rest : List Value)
    (hst : g.stack = argsL.reverse ++ .ref b :: rest := by rfl) (has : (.ref b :: argsL).toArray = as' := by rfl) (hg : g.method = m := by rfl) (hsz : g.locals.size = k := by rfl) (hln : argsL.length = ps.length := by rfl) (hy : own_np y := by decide) (hW : 2 * g.monitorRoom + (rest.map fun v => v.category).sum ≤ W := by show 2 * 0 + _ ≤ _; exact Nat.le_of_eq rfl) (hf : rm.frames + 1 ≤ R.frames := by decide) (hl : W + (maxL + 11) + rm.locals ≤ R.locals := by decide) (hc : cells + rm.cells ≤ R.cells := by decide) (hs : slots + rm.slots ≤ R.slots := by decide) :
    ∃ (v : Option Value) (T' : State) (L : List Loc), Stand p l e R s m args below meth c T' (locs ++ L) (cells + rm.cells) (slots + rm.slots) ∧ Q v T'.heap L ∧ ∀ t, Steps p.tables e below (T'.setTop { g with pc := g.pc + 5, stack := v.toList ++ rest }) t → Steps p.tables e below (T.setTop g) t := by
  obtain ⟨cq, kq, qa, qb, qc⟩ := isOf hZ eT E
  obtain ⟨v, _, ⟨T', L', k', n'⟩, -, X', ⟨L, hQ, h1, h2, h3⟩, st⟩ := X.interfaceBack hx (xi := y) (y := z) hown (mvT hZ w1) (mvT hZ w2) w7 (mvT hZ w5) (mvT hZ w6) (mvT hZ w8) (mvT hZ w9) (mvT hZ w10) hy (backOf (W := W) hM hZ w4 w3 hf hl) qa qb qc (g := g) hg (hsz.trans hml.symm) (Steps.refl _) (argsL := argsL) (rest := rest) (lenOf hd hln) hst hW hdg (fun _ _ => ⟨has, eT, hc, hs⟩)
  dsimp only [Pt.U, Pt.locs, Pt.cells, Pt.slots] at X' h1 h2 h3 st hQ
  subst h1 h2 h3
  exact ⟨v, T', L, X', hQ, fun t q => st.trans q⟩
end Calls
theorem own_ord {s : State} {args : Array Value} {t : Term} {a : Addr} {k : Int32} (ev : t.eval args s none [] s = some (.ref a)) (h : (Jvm.Cond.eq (Jvm.Term.field t "java/lang/Enum" "ordinal" "I") (Jvm.Term.int k)).value args s none s [] = some true) : Fld s s.heap a "java/lang/Enum" "ordinal" "I" (.int k) := by
  obtain ⟨x, y, h1, h2, h3, h4⟩ := cmp_v (Or.inl h)
  rw [Term.int_eval] at h2
  cases h2
  obtain ⟨z, rfl⟩ : ∃ z, x = .int z := h4
  have e : z = k := gotT (Cond.eq_ints h1 (Term.int_eval k)) h
  subst e
  rw [fld_at ev] at h1
  exact Fld.start h1
abbrev DC (b : ByteArray) (p : Nat) (i : Instr) (n : Nat) : Prop := decode b p = .ok (i, n)
section Own483
variable {p : Program} {l : Launch} {e : Env} {R : Room} {s : State} {m : MethodId} {args : Array Value} {below : List Frame} {meth : Method} {c : Code} {T : State} {locs : List Loc} {cells slots : Nat} {Z : State} {a0 : Array Value} {h : Heap}
/-- the Class object of the class C -/
def own_Mir (Z : State) (C : String) (a : Addr) : Prop := ∃ (c : ClassId) (k : Class), Z.vm.findClass C = some c ∧ Z.vm.classes[c]? = some k ∧ k.mirror = some a
/-- an Integer's cache -/
def own_BoxInteger (Z : State) (a : Addr) : Prop := ∃ c, Bxs Z a c "java/lang/Integer" "I" 256 (fun j => .int (j - 128))
theorem own_box (x : Int32) (h1 : ¬ x < (-128 : Int32)) (h2 : ¬ (127 : Int32) < x) : ¬ (x + (128 : Int32)) < 0 ∧ (x + (128 : Int32)) < 256 := by
  simp only [Int32.lt_iff_toInt_lt, Int32.toInt_add] at *
  have e1 : (-128 : Int32).toInt = -128 := rfl
  have e2 : (127 : Int32).toInt = 127 := rfl
  have e3 : (128 : Int32).toInt = 128 := rfl
  have e4 : (0 : Int32).toInt = 0 := rfl
  have e5 : (256 : Int32).toInt = 256 := rfl
  rw [e1] at h1; rw [e2] at h2; rw [e3, e4, e5]
  have : (x.toInt + 128).bmod (2 ^ 32) = x.toInt + 128 := by
    rw [Int.bmod_eq_of_le] <;> omega
  omega
theorem own_self {y : MethodName} {n : Nat} (hZ : Z.Warmed39 s.vm) (wi : (Jvm.Cond.instantiable y.cls n).before a0 Z = true) (wp : (Jvm.Cond.privateMethod y).before a0 Z = true) (wm : (Jvm.Cond.instanceMethod y).before a0 Z = true) (hy : y.cls ≠ "java/lang/invoke/MethodHandle" ∧ y.cls ≠ "java/lang/invoke/VarHandle") : (Jvm.Cond.selects y.cls y y).before args s = true := by
  obtain ⟨c, k, h1, h2, -, h4, -⟩ := Cond.instantiable_spec wi
  have hni : k.isInterface = false := (Bool.or_eq_false_iff.mp h4).1
  exact mvT hZ (selects_self_of_private h1 h2 hni (Cond.privateMethod_at wp) wm hy)
/-- getfield where the entry is resolved -/
theorem own_getR (X : Stand p l e R s m args below meth c T locs cells slots) (hx : p.tables.exec = Jvm.exec) (hZ : Z.Warmed39 s.vm) {own R0 n d : String} {index : Nat} (hown : s.vm.findClass own = some m.cls) (w : (Jvm.Cond.fieldRef own index R0 n d).before a0 Z = true)
    (eT : T.heap = h) {a : Addr} {v : Value} (F : Fld Z h a R0 n d v) {g : JFrame} (hg : g.method = m) {rest : List Value} (hs : g.stack = .ref a :: rest) (hd : decode c.code g.pc = .ok (.getfield index, 3)) : ∃ T', Stand p l e R s m args below meth c T' locs cells slots ∧ T'.heap = h ∧ ∀ target, Steps p.tables e below (T'.setTop { g with pc := g.pc + 3, stack := v :: rest }) target → Steps p.tables e below (T.setTop g) target := by
  obtain ⟨cell, cf, k, i, f, h1, h2, h3, h4, -, -, h7⟩ := F
  have hU := wtrans hZ X.warmed
  have w' := Cond.fieldRef_warmed39 hU w
  have ho : (Z.setVm T.vm).vm.findClass own = some m.cls := by show T.vm.findClass own = _; rw [X.warmed.alike.findClass]; exact hown
  obtain ⟨c2, k2, i2, f2, q1, q2⟩ := Cond.fieldRef_spec ho w'
  obtain ⟨k', hi, -⟩ := State.fieldFound?_setVm (s := Z) hU.alike h2
  cases hi.symm.trans q1
  refine ⟨T, X, eT, fun target hr => ?_⟩
  subst hg
  have q2' : T.vm.fieldReady g.method.cls index cf f := q2
  jvm_step X.here [hx, hd, getfield.wp_ready (e := e) (s := T) (f := g) X.here.top q2' h3 hs (by rw [eT]; exact h1) h4 h7]
  exact hr
theorem own_putR (X : Stand p l e R s m args below meth c T locs cells slots) (hx : p.tables.exec = Jvm.exec) (hZ : Z.Warmed39 s.vm) {own R0 n d C : String} {index kk : Nat} {ty : FieldType} (hown : s.vm.findClass own = some m.cls) (w : (Jvm.Cond.fieldRef own index R0 n d).before a0 Z = true)
    (eT : T.heap = h) {a : Addr} {v old : Value} (F : Fld Z h a R0 n d old) (E : Exa Z h a C) (L : (Jvm.Cond.lays C R0 n d).before a0 Z = true) (wi : (Jvm.Cond.instantiable C kk).before a0 Z = true)
    (hty : parseFieldDescriptor d = some ty) (hn : narrow ty v = v) (hf : fits ty v = true) {g : JFrame} (hg : g.method = m) {rest : List Value} (hs : g.stack = v :: .ref a :: rest) (hd : decode c.code g.pc = .ok (.putfield index, 3)) :
    ∃ T' h', Stand p l e R s m args below meth c T' (locs ++ [⟨a, Jvm.RoadKit.slotOf Z R0 n d⟩]) cells slots ∧ T'.heap = h' ∧ Wr h h' a (Jvm.RoadKit.slotOf Z R0 n d) v ∧ ∀ target, Steps p.tables e below (T'.setTop { g with pc := g.pc + 3, stack := rest }) target → Steps p.tables e below (T.setTop g) target := by
  obtain ⟨cell, cf, k, i, f, h1, h2, h3, h4, h5, h6, h7⟩ := F
  obtain ⟨cell', kc, e1, e2, e3, -⟩ := E
  cases h1.symm.trans e1
  obtain ⟨c1, k1, cf1, kf1, i1, f1, a1, a2, a3, -, a5, a6⟩ := Cond.lays_spec L
  cases h2.symm.trans a3
  cases e2.symm.trans a1
  obtain ⟨c2, k2, i1, i2, i3, -⟩ := Cond.instantiable_spec wi
  cases e2.symm.trans i1
  cases a2.symm.trans i2
  have ht := (State.fieldFound?_type h2 hty).2
  have hfit : Z.fitsSlot cell.cls cell.vm f.slot v = true := by
    have q : Z.slotType? cell.cls cell.vm f.slot = some ty := by
      simp only [State.slotType?, a2, Option.bind_eq_bind, Option.bind_some, i3]
      cases hq : cell.vm <;> first | (rw [hq] at h5; exact Bool.noConfusion h5) | (rw [a6.2.1, ht])
    simp [State.fitsSlot, q, hf]
  have hU := wtrans hZ X.warmed
  have hfitT : T.fitsSlot cell.cls cell.vm f.slot v = true := by
    show (Z.setVm T.vm).fitsSlot cell.cls cell.vm f.slot v = true
    rw [State.fitsSlot_setVm hU.alike]; exact hfit
  have w' := Cond.fieldRef_warmed39 hU w
  have ho : (Z.setVm T.vm).vm.findClass own = some m.cls := by show T.vm.findClass own = _; rw [X.warmed.alike.findClass]; exact hown
  obtain ⟨c2, k2, i2, f2, q1, q2⟩ := Cond.fieldRef_spec ho w'
  obtain ⟨k', hi, -⟩ := State.fieldFound?_setVm (s := Z) hU.alike h2
  cases hi.symm.trans q1
  have hlt := (Array.getElem?_eq_some_iff.mp h7).1
  have es : Jvm.RoadKit.slotOf Z R0 n d = f.slot := by simp [Jvm.RoadKit.slotOf, h2]
  rw [es]
  obtain ⟨X', st⟩ := X.putfieldReady hx q2 h3 (Or.inl a5) (by rw [eT]; exact h1) h4 hlt (by rw [ht]; exact hn) hfitT hg hs hd
  exact ⟨_, _, X', rfl, ⟨cell, h1, h5, hlt, by rw [← eT]; rfl⟩, st⟩
theorem own_len {args : Array Value} {t : Term} {a : Addr} {cl : Cell} {ty : FieldType} {z : Int32} (ev : t.eval args Z none [] Z = some (.ref a)) (A : Arr Z Z.heap a cl ty) (hl : (Jvm.Cond.eq (Jvm.Term.length t) (Jvm.Term.int z)).value args Z none Z [] = some true) : cl.slots.size < 2 ^ 31 ∧ cl.slots.size.toInt32 = z := by
  have e1 := eqv_i (Term.int_eval z) hl
  have ha := A.fin (Vm.Alike.refl _)
  by_cases q : cl.slots.size < 2 ^ 31
  · rw [len_f ev ha q] at e1
    exact ⟨q, Value.int.inj (Option.some.inj e1)⟩
  · simp [Term.eval, ev, ha, q] at e1
theorem own_arv0 {args : Array Value} {t : Term} {a : Addr} {C : String} (ev : t.eval args Z none [] Z = some (.ref a)) (ha : (Jvm.Cond.arrayOf t (.object C)).value args Z none Z [] = some true) (hl : (Jvm.Cond.eq (Jvm.Term.length t) (Jvm.Term.int 0)).value args Z none Z [] = some true) : ∃ k, Arv Z Z.heap a k (.object C) 0 [] .null := by
  obtain ⟨cl, A⟩ := Arr.start ev ha
  obtain ⟨q, e⟩ := own_len ev A hl
  have e0 : cl.slots.size = (0 : Int32).toNatClampNeg := by rw [← e]; simp only [Int32.toNatClampNeg, len_toInt q]; rfl
  have e1 : cl.slots.size = 0 := e0
  exact ⟨cl.cls, cl, A, rfl, e0, by decide, fun i hi => absurd hi (by omega), fun i hi => absurd hi (by omega)⟩
theorem own_boxedInteger {args : Array Value} {t : Term} {a : Addr} (et : ∀ idx, t.eval args Z none idx Z = some (.ref a)) (ha : (Jvm.Cond.arrayOf t (.object "java/lang/Integer")).value args Z none Z [] = some true) (hl : (Jvm.Cond.eq (Jvm.Term.length t) (Jvm.Term.int 256)).value args Z none Z [] = some true)
    (h : (Jvm.Cond.all t (.and (.exactly (.elem t (.index 0)) "java/lang/Integer") (.eq (.field (.elem t (.index 0)) "java/lang/Integer" "value" "I") (.sub (.index 0) (.int 128))))).value args Z none Z [] = some true) : own_BoxInteger Z a := by
  obtain ⟨cl, A⟩ := Arr.start (et []) ha
  obtain ⟨q, e⟩ := own_len (et []) A hl
  exact ⟨cl, Bxs.start et A q e (by decide) h fun X j nn hx => eqv_i (by
    have hi : (Jvm.Term.index 0).eval args Z none [j.toNatClampNeg] Z = some (.int j) := idx_at nn
    have hj : j.toNatClampNeg.toInt32 = j := by simpa [Term.eval] using hi
    simp [Term.eval, hj]) hx⟩
/-- not an instance: the class K is an ordinary one -/
def own_Ord (Z : State) (K : String) : Prop := ∃ (t : ClassId) (k : Class), Z.vm.findClass K = some t ∧ Z.vm.classes[t]? = some k ∧ k.isInterface = false
theorem own_ordI {K : String} {n : Nat} (w : (Jvm.Cond.instantiable K n).before a0 Z = true) : own_Ord Z K := by
  obtain ⟨c, k, h1, h2, -, h4, -⟩ := Cond.instantiable_spec w
  exact ⟨c, k, h1, h2, (Bool.or_eq_false_iff.mp h4).1⟩
theorem own_ordS {C : String} {x y : MethodName} (w : (Jvm.Cond.selects C x y).before a0 Z = true) : own_Ord Z y.cls := by
  obtain ⟨c2, r2, m2, -, -, q3, -, kP, hkP, hkPi⟩ := Cond.selects_spec w
  exact ⟨m2.cls, kP, findClass_of_methodNamed q3, hkP, hkPi⟩
theorem own_NSroot {O K : String} (w : (Jvm.Cond.noSuperclass O).before a0 Z = true) (o : own_Ord Z K) (hn : O ≠ K) : NS Z O K := by
  obtain ⟨c, k, h1, h2, h3, -, -⟩ := Cond.noSuperclass_spec w
  obtain ⟨t, kt, g1, -, -⟩ := o
  have ne := ids_ne h1 g1 hn
  refine ⟨c, t, h1, g1, fun fuel => ?_⟩
  cases fuel with
  | zero => rfl
  | succ f => simp [Vm.isSubclassAux, ne, h2, h3]
theorem own_NSno {C S K : String} (w : (Jvm.Cond.superclass C S).before a0 Z = true) (o : own_Ord Z K) (n : NS Z C K) (hn : C ≠ K) : ∃ c t, Z.vm.findClass C = some c ∧ Z.vm.findClass K = some t ∧ Z.vm.assignable c t = false := by
  obtain ⟨c, t, h0, g0, n3⟩ := n
  obtain ⟨p, k, kp, h1, h2, h3, h4, h5, -, h7⟩ := Cond.superclass_spec h0 w
  obtain ⟨t', kt, g1, g2, g7⟩ := o
  cases g0.symm.trans g1
  have ne := ids_ne h0 g0 hn
  refine ⟨c, t, h0, g0, ?_⟩
  show Z.vm.assignableAux (255 + 1) c t = false
  cases hk : kt.kind <;> simp [Vm.assignableAux, ne, h2, g2, h5, hk, g7, Vm.isSubclass, n3]
/-- ldc of a class whose Class object stands -/
theorem own_ldcM (X : Stand p l e R s m args below meth c T locs cells slots) (hx : p.tables.exec = Jvm.exec) (hZ : Z.Warmed39 s.vm) {own C : String} {index : Nat} (hown : s.vm.findClass own = some m.cls) (w : (Jvm.Cond.classLink own index C).before a0 Z = true) (eT : T.heap = h) {a : Addr} (M : own_Mir Z C a)
    {g : JFrame} (hg : g.method = m) (hd : decode c.code g.pc = .ok (.ldc index, 2)) : ∃ T', Stand p l e R s m args below meth c T' locs cells slots ∧ T'.heap = h ∧ ∀ target, Steps p.tables e below (T'.setTop { g with pc := g.pc + 2, stack := .ref a :: g.stack }) target → Steps p.tables e below (T.setTop g) target := by
  obtain ⟨cc, kc, m1, m2, m3⟩ := M
  obtain ⟨k', q, hk'⟩ := hZ.alike.2.2 _ _ m2
  have hf : s.vm.findClass C = some cc := by rw [hZ.alike.findClass]; exact m1
  have hm : k'.mirror = some a := by rw [hk']; exact m3
  obtain ⟨vm', X', st⟩ := X.ldcMirror hx hown (mv hZ w) (a := a) (by simp [Term.eval, hf, q, hm]) hg hd
  exact ⟨_, X', eT, st⟩
theorem own_getC (X : Stand p l e R s m args below meth c T locs cells slots) (hx : p.tables.exec = Jvm.exec) (hZ : Z.Warmed39 s.vm) {own C : String} {index : Nat} (hown : s.vm.findClass own = some m.cls) (w1 : (Jvm.Cond.methodLink own index Jvm.Stand.gcN).before a0 Z = true) (w2 : (Jvm.Cond.declares Jvm.Stand.gcN).before a0 Z = true) (nf : NotFace s Jvm.Stand.gcN)
    (w3 : (Jvm.Cond.selects C Jvm.Stand.gcN Jvm.Stand.gcN).before a0 Z = true) (w4 : (Jvm.Cond.instanceMethod Jvm.Stand.gcN).before a0 Z = true) (w5 : (Jvm.Cond.native Jvm.Stand.gcN).before a0 Z = true) (eT : T.heap = h) {b mir : Addr} (E : Exa Z h b C) (M : own_Mir Z C mir)
    {g : JFrame} (hg : g.method = m) (hsize : g.locals.size = c.maxLocals) {rest : List Value} (hs : g.stack = .ref b :: rest) (hd : decode c.code g.pc = .ok (.invokevirtual index, 3)) (hf : 1 ≤ R.frames) {W : Nat} (hW : 2 * g.monitorRoom + (rest.map fun v => v.category).sum ≤ W) (hl : W + 14 ≤ R.locals) :
    ∃ T', Stand p l e R s m args below meth c T' locs cells slots ∧ T'.heap = h ∧ ∀ target, Steps p.tables e below (T'.setTop { g with pc := g.pc + 3, stack := .ref mir :: rest }) target → Steps p.tables e below (T.setTop g) target := by
  obtain ⟨cc, kc, m1, m2, m3⟩ := M
  obtain ⟨cq, kq, qa, qb, qc⟩ := isOf hZ eT E
  obtain ⟨k', q, hk'⟩ := hZ.alike.2.2 _ _ m2
  have hfc : s.vm.findClass C = some cc := by rw [hZ.alike.findClass]; exact m1
  cases qa.symm.trans hfc
  have hm : k'.mirror = some mir := by rw [hk']; exact m3
  have e14 : nativeFrameWords "java/lang/Object" "getClass" 1 + 11 = 14 := by decide
  obtain ⟨vm', X', st⟩ := X.getClassOf hx hown (mv hZ w1) (mv hZ w2) nf (mv hZ w3) (mv hZ w4) (mv hZ w5) hfc qc q hm hg hsize hs hd hf (by rw [e14]; omega)
  exact ⟨_, X', eT, st⟩
/-- a private method, called by invokevirtual, by its contract -/
theorem own_cP {own C : String} {index maxL k W nn : Nat} {y : MethodName} {bytes : ByteArray} {ret : Option FieldType} {rm : Room} {as' : Array Value} {Q : Option Value → Heap → List Loc → Prop} (X : Stand p l e R s m args below meth c T locs cells slots) (hx : p.tables.exec = Jvm.exec) (hZ : Z.Warmed39 s.vm) (hown : s.vm.findClass own = some m.cls)
    (w1 : (Jvm.Cond.methodLink own index y).before a0 Z = true) (wi : (Jvm.Cond.instantiable y.cls nn).before a0 Z = true) (wp : (Jvm.Cond.privateMethod y).before a0 Z = true) (w6 : (Jvm.Cond.instanceMethod y).before a0 Z = true) (w3 : (Jvm.Cond.initialized y.cls).before a0 Z = true) (w4 : (Jvm.Cond.code y bytes maxL ret).before a0 Z = true)
    (hM : MetFree l y (head1 [Jvm.Cond.code y bytes maxL ret] rm) (own_In Z as' h) (fun _ _ _ _ _ => True) (own_Out Q rm)) (eT : T.heap = h) {b : Addr} (E : Exa Z h b C) (hml : c.maxLocals = k) {g : JFrame} {ps : List FieldType} {r : Option FieldType} (hd : parseMethodDescriptor y.desc = some ⟨ps, r⟩) (hdg : decode c.code g.pc = .ok (.invokevirtual index, 3)) (argsL rest : List Value)
    (hst : g.stack = argsL.reverse ++ .ref b :: rest := by rfl) (has : (.ref b :: argsL).toArray = as' := by rfl) (hg : g.method = m := by rfl) (hsz : g.locals.size = k := by rfl) (hln : argsL.length = ps.length := by rfl) (hy : own_np y := by decide) (hW : 2 * g.monitorRoom + (rest.map fun v => v.category).sum ≤ W := by show 2 * 0 + _ ≤ _; exact Nat.le_of_eq rfl) (hf : rm.frames + 1 ≤ R.frames := by decide) (hl : W + (maxL + 11) + rm.locals ≤ R.locals := by decide) (hc : cells + rm.cells ≤ R.cells := by decide) (hs : slots + rm.slots ≤ R.slots := by decide) :
    ∃ (v : Option Value) (T' : State) (L : List Loc), Stand p l e R s m args below meth c T' (locs ++ L) (cells + rm.cells) (slots + rm.slots) ∧ Q v T'.heap L ∧ ∀ t, Steps p.tables e below (T'.setTop { g with pc := g.pc + 3, stack := v.toList ++ rest }) t → Steps p.tables e below (T.setTop g) t := by
  obtain ⟨cq, q1, q2⟩ := E.cell
  obtain ⟨v, _, ⟨T', L', k', n'⟩, -, X', ⟨L, hQ, h1, h2, h3⟩, st⟩ := X.privateBack hx (y := y) hown (mvT hZ w1) (mvT hZ w6) (own_self hZ wi wp w6 hy) (Cond.privateMethod_at (mvP hZ wp (args := #[]))) (mvT hZ w4) hy (backOf (W := W) hM hZ w4 w3 hf hl) (g := g) hg (hsz.trans hml.symm) (Steps.refl _) (a := b) (by rw [eT]; exact q1) q2 (argsL := argsL) (rest := rest) (lenOf hd hln) hst hW hdg (fun _ _ => ⟨has, eT, hc, hs⟩)
  dsimp only [Pt.U, Pt.locs, Pt.cells, Pt.slots] at X' h1 h2 h3 st hQ
  subst h1 h2 h3
  exact ⟨v, T', L, X', hQ, fun t q => st.trans q⟩
/-- a method that the named class inherits, by its contract -/
theorem own_cVU {own C owner : String} {index maxL k W : Nat} {y z : MethodName} {bytes : ByteArray} {ret : Option FieldType} {rm : Room} {as' : Array Value} {Q : Option Value → Heap → List Loc → Prop} (X : Stand p l e R s m args below meth c T locs cells slots) (hx : p.tables.exec = Jvm.exec) (hZ : Z.Warmed39 s.vm) (hown : s.vm.findClass own = some m.cls)
    (w1 : (Jvm.Cond.methodLink own index y).before a0 Z = true) (wsm : (Jvm.Cond.sameMethod y.cls owner y.name y.desc).before a0 Z = true) (w2 : (Jvm.Cond.declares ⟨owner, y.name, y.desc⟩).before a0 Z = true) (w5 : (Jvm.Cond.selects C y z).before a0 Z = true) (w6 : (Jvm.Cond.instanceMethod z).before a0 Z = true) (w3 : (Jvm.Cond.initialized z.cls).before a0 Z = true) (w4 : (Jvm.Cond.code z bytes maxL ret).before a0 Z = true)
    (hM : MetFree l z (head1 [Jvm.Cond.code z bytes maxL ret] rm) (own_In Z as' h) (fun _ _ _ _ _ => True) (own_Out Q rm)) (eT : T.heap = h) {b : Addr} (E : Exa Z h b C) (hml : c.maxLocals = k) {g : JFrame} {ps : List FieldType} {r : Option FieldType} (hd : parseMethodDescriptor y.desc = some ⟨ps, r⟩) (hdg : decode c.code g.pc = .ok (.invokevirtual index, 3)) (argsL rest : List Value)
    (hst : g.stack = argsL.reverse ++ .ref b :: rest := by rfl) (has : (.ref b :: argsL).toArray = as' := by rfl) (hg : g.method = m := by rfl) (hsz : g.locals.size = k := by rfl) (hln : argsL.length = ps.length := by rfl) (hy : owner ≠ "java/lang/invoke/MethodHandle" ∧ owner ≠ "java/lang/invoke/VarHandle" := by decide) (hW : 2 * g.monitorRoom + (rest.map fun v => v.category).sum ≤ W := by show 2 * 0 + _ ≤ _; exact Nat.le_of_eq rfl) (hf : rm.frames + 1 ≤ R.frames := by decide) (hl : W + (maxL + 11) + rm.locals ≤ R.locals := by decide) (hc : cells + rm.cells ≤ R.cells := by decide) (hs : slots + rm.slots ≤ R.slots := by decide) :
    ∃ (v : Option Value) (T' : State) (L : List Loc), Stand p l e R s m args below meth c T' (locs ++ L) (cells + rm.cells) (slots + rm.slots) ∧ Q v T'.heap L ∧ ∀ t, Steps p.tables e below (T'.setTop { g with pc := g.pc + 3, stack := v.toList ++ rest }) t → Steps p.tables e below (T.setTop g) t := by
  obtain ⟨cq, kq, qa, qb, qc⟩ := isOf hZ eT E
  obtain ⟨v, _, ⟨T', L', k', n'⟩, -, X', ⟨L, hQ, h1, h2, h3⟩, st⟩ := X.virtualBackUp hx (x := y) (y := z) hown (mvT hZ w1) (mvT hZ wsm) (mvT hZ w2) hy (mvT hZ w5) (mvT hZ w6) (backOf (W := W) hM hZ w4 w3 hf hl) qa qc (g := g) hg (hsz.trans hml.symm) (Steps.refl _) (argsL := argsL) (rest := rest) (lenOf hd hln) hst hW hdg (fun _ _ => ⟨has, eT, hc, hs⟩)
  dsimp only [Pt.U, Pt.locs, Pt.cells, Pt.slots] at X' h1 h2 h3 st hQ
  subst h1 h2 h3
  exact ⟨v, T', L, X', hQ, fun t q => st.trans q⟩
/-- an interface's method whose body has handlers, by its contract -/
theorem own_cFW {own C : String} {index count maxL k W : Nat} {y z : MethodName} {bytes : ByteArray} {ret : Option FieldType} {hds : List (Nat × Nat × Nat × Nat)} {rm : Room} {as' : Array Value} {Q : Option Value → Heap → List Loc → Prop} (X : Stand p l e R s m args below meth c T locs cells slots) (hx : p.tables.exec = Jvm.exec) (hZ : Z.Warmed39 s.vm) (hown : s.vm.findClass own = some m.cls)
    (w1 : (Jvm.Cond.methodLink own index y).before a0 Z = true) (w2 : (Jvm.Cond.declares y).before a0 Z = true) (w7 : (Jvm.Cond.interfaceMethod y.cls y.cls y.name y.desc).before args s = true) (w5 : (Jvm.Cond.selects C y z).before a0 Z = true) (w6 : (Jvm.Cond.instanceMethod z).before a0 Z = true) (w8 : (Jvm.Cond.publicMethod z).before a0 Z = true) (w9 : (Jvm.Cond.unhidden C y.name y.desc).before a0 Z = true) (w10 : (Jvm.Cond.castable C y.cls).before a0 Z = true) (w3 : (Jvm.Cond.initialized z.cls).before a0 Z = true) (w4 : (Jvm.Cond.codeWith z bytes maxL ret hds).before a0 Z = true)
    (hM : MetFree l z (head1 [Jvm.Cond.codeWith z bytes maxL ret hds] rm) (own_In Z as' h) (fun _ _ _ _ _ => True) (own_Out Q rm)) (eT : T.heap = h) {b : Addr} (E : Exa Z h b C) (hml : c.maxLocals = k) {g : JFrame} {ps : List FieldType} {r : Option FieldType} (hd : parseMethodDescriptor y.desc = some ⟨ps, r⟩) (hdg : decode c.code g.pc = .ok (.invokeinterface index count, 5)) (argsL rest : List Value)
    (hst : g.stack = argsL.reverse ++ .ref b :: rest := by rfl) (has : (.ref b :: argsL).toArray = as' := by rfl) (hg : g.method = m := by rfl) (hsz : g.locals.size = k := by rfl) (hln : argsL.length = ps.length := by rfl) (hy : own_np y := by decide) (hW : 2 * g.monitorRoom + (rest.map fun v => v.category).sum ≤ W := by show 2 * 0 + _ ≤ _; exact Nat.le_of_eq rfl) (hf : rm.frames + 1 ≤ R.frames := by decide) (hl : W + (maxL + 11) + rm.locals ≤ R.locals := by decide) (hc : cells + rm.cells ≤ R.cells := by decide) (hs : slots + rm.slots ≤ R.slots := by decide) :
    ∃ (v : Option Value) (T' : State) (L : List Loc), Stand p l e R s m args below meth c T' (locs ++ L) (cells + rm.cells) (slots + rm.slots) ∧ Q v T'.heap L ∧ ∀ t, Steps p.tables e below (T'.setTop { g with pc := g.pc + 5, stack := v.toList ++ rest }) t → Steps p.tables e below (T.setTop g) t := by
  obtain ⟨cq, kq, qa, qb, qc⟩ := isOf hZ eT E
  obtain ⟨v, _, ⟨T', L', k', n'⟩, -, X', ⟨L, hQ, h1, h2, h3⟩, st⟩ := X.interfaceBack hx (xi := y) (y := z) hown (mvT hZ w1) (mvT hZ w2) w7 (mvT hZ w5) (mvT hZ w6) (mvT hZ w8) (mvT hZ w9) (mvT hZ w10) hy (backOfWith (W := W) hM hZ w4 w3 hf hl) qa qb qc (g := g) hg (hsz.trans hml.symm) (Steps.refl _) (argsL := argsL) (rest := rest) (lenOf hd hln) hst hW hdg (fun _ _ => ⟨has, eT, hc, hs⟩)
  dsimp only [Pt.U, Pt.locs, Pt.cells, Pt.slots] at X' h1 h2 h3 st hQ
  subst h1 h2 h3
  exact ⟨v, T', L, X', hQ, fun t q => st.trans q⟩
/-- a constructor whose pool entry is resolved, by its contract -/
theorem own_cR {own : String} {index maxL k W : Nat} {y : MethodName} {bytes : ByteArray} {rm : Room} {as' : Array Value} {Q : Option Value → Heap → List Loc → Prop} (X : Stand p l e R s m args below meth c T locs cells slots) (hx : p.tables.exec = Jvm.exec) (hZ : Z.Warmed39 s.vm) (hown : s.vm.findClass own = some m.cls)
    (w1 : (Jvm.Cond.methodRef own index y).before a0 Z = true) (w2 : (Jvm.Cond.instanceMethod y).before a0 Z = true) (w3 : (Jvm.Cond.initialized y.cls).before a0 Z = true) (w4 : (Jvm.Cond.code y bytes maxL none).before a0 Z = true)
    (hM : MetFree l y (head1 [Jvm.Cond.code y bytes maxL none] rm) (own_In Z as' h) (fun _ _ _ _ _ => True) (own_Out Q rm)) (eT : T.heap = h) (hml : c.maxLocals = k) {g : JFrame} {ps : List FieldType} {r : Option FieldType} (hd : parseMethodDescriptor y.desc = some ⟨ps, r⟩) (hdg : decode c.code g.pc = .ok (.invokespecial index, 3)) (a : Addr) (argsL rest : List Value)
    (hst : g.stack = argsL.reverse ++ .ref a :: rest := by rfl) (has : (.ref a :: argsL).toArray = as' := by rfl) (hg : g.method = m := by rfl) (hsz : g.locals.size = k := by rfl) (hln : argsL.length = ps.length := by rfl) (hn : y.name = "<init>" := by rfl) (hy : own_np y := by decide) (hW : 2 * g.monitorRoom + (rest.map fun v => v.category).sum ≤ W := by show 2 * 0 + _ ≤ _; exact Nat.le_of_eq rfl) (hf : rm.frames + 1 ≤ R.frames := by decide) (hl : W + (maxL + 11) + rm.locals ≤ R.locals := by decide) (hc : cells + rm.cells ≤ R.cells := by decide) (hs : slots + rm.slots ≤ R.slots := by decide) :
    ∃ (v : Option Value) (T' : State) (L : List Loc), Stand p l e R s m args below meth c T' (locs ++ L) (cells + rm.cells) (slots + rm.slots) ∧ Q v T'.heap L ∧ ∀ t, Steps p.tables e below (T'.setTop { g with pc := g.pc + 3, stack := v.toList ++ rest }) t → Steps p.tables e below (T.setTop g) t := by
  have hU := wtrans hZ X.warmed
  obtain ⟨mk, methM, hnamed, hmethM, hstM, habM⟩ := Cond.instanceMethod_spec (s := T) (mv hU w2 (args := #[]))
  obtain ⟨methM', cM, hmethM', -, -, -, -, -, -, hsigM⟩ := Cond.code_spec hnamed (mv hU w4 (args := #[]))
  cases hmethM.symm.trans hmethM'
  obtain ⟨mZ, -, hnZ, -, -, -⟩ := Cond.instanceMethod_spec w2
  have w1' := Cond.methodRef_warmed39 hU hnZ hy w1
  have ho : (Z.setVm T.vm).vm.findClass own = some m.cls := by show T.vm.findClass own = _; rw [X.warmed.alike.findClass]; exact hown
  obtain ⟨m1, c1, hm1, hready, hfind, hnr⟩ := Cond.methodRef_named e ho w1'
  have hfT : (Z.setVm T.vm).methodFound? y.cls y.name y.desc = some mk := State.methodFound?_of_named (s := T) hnamed hy
  cases hm1.symm.trans hfT
  have hc1 : c1 = mk.cls := Option.some.inj (hfind.symm.trans (findClass_of_methodNamed hnamed))
  subst hc1
  obtain ⟨kP, hkP, -⟩ := className_of_methodNamed hnamed
  obtain ⟨hnameM, hdescM⟩ := name_of_methodNamed hnamed hmethM
  have hfound : lookupSpecial T.vm mk.cls "<init>" methM.desc = .method mk := by
    have := lookupSpecial_of_named hnamed hmethM hstM
    rw [hn] at this; rw [hdescM]; exact this
  have hlen : argsL.length = methM.sig.parameters.length := lenOf hd hln _ hsigM
  obtain ⟨v, ⟨T', L', k', n'⟩, X', ⟨L, hQ, h1, h2, h3⟩, st⟩ := backOf (R := R) (p := p) (e := e) (below := below) (s := s) (args := args) (len := 3) (W := W) hM hZ w4 w3 hf hl m meth c ⟨T, locs, cells, slots⟩ { g with stack := rest } (.invokespecial index) mk (.ref a :: argsL).toArray X hg (hsz.trans hml.symm) hdg hW hnamed ⟨has, eT, hc, hs⟩
  dsimp only [Pt.U, Pt.locs, Pt.cells, Pt.slots] at X' h1 h2 h3 st hQ
  subst h1 h2 h3
  refine ⟨v, T', L, X', hQ, fun t q => ?_⟩
  subst hg
  jvm_step X.here [hx, hdg, invokespecial.wp_init (e := e) (s := T) (k := kP) (meth := methM) (m := mk) (a := a) (args := argsL) (rest := rest) (f := g) X.here.top hnr hready hkP hmethM (hnameM.trans hn) hstM habM hfound hlen hst]
  first | (rw [doInvoke_state]; exact st.trans q) | (intro acts; rw [doInvoke_state]; exact st.trans q)
/-- Object.equals, by its own steps (no word says that Object is initialised) -/
theorem own_enterW {y : MethodName} {bytes : ByteArray} {maxL : Nat} {ret : Option FieldType} {hds : List (Nat × Nat × Nat × Nat)} {ws : List Jvm.Cond} {R : Room} {A : Array Value} {h0 : Heap} {n0 : Nat} {Ls : Array Slot} {Q : Array Value → State → Outcome → State → Prop} (hp : plainFor y = true) (ef : ∀ m, entryFrame m A maxL = mkF m 0 Ls [])
    (k : ∀ (p : Program) (e : Env) (s : State) (m : MethodId) (below : List Frame) (meth : Method) (c : Code) (s₁ : State), p.tables.exec = Jvm.exec → c.code = bytes → c.maxLocals = maxL → s.vm.findClass y.cls = some m.cls → meth.name = y.name → meth.sig.returnType = ret → meth.locks = false →
      Stand p l e R s m A below meth c s₁ [] 0 0 → s₁.heap = h0 → Z.Warmed39 s.vm → s.heap = h0 → Fr n0 [] → own_Fin p e below (fun U o => Q A s o U) s₁ (mkF m 0 Ls [])) :
    MetFree l y (head1 (Jvm.Cond.codeWith y bytes maxL ret hds :: ws) R) (fun a U => a = A ∧ Z.Warmed39 U.vm ∧ U.heap = h0) (fun _ _ _ _ _ => True) Q := by
  refine MetFree.of_bodySF hp hisWith ?_
  intro p e s m args below meth c s₁ Bd hml hP hK
  obtain ⟨rfl, hZ, hh⟩ := hP
  exact own_start (ef m) (k p e s m below meth c s₁ Bd.exec Bd.bytes hml (findClass_of_methodNamed Bd.named) (name_of_methodNamed Bd.named Bd.method).1 Bd.returns Bd.notSynchronized (Stand.of_body Bd) (by rw [← hh, Bd.state]; rfl) hZ hh (Fr.nil n0))
theorem own_objEq {len W n0 : Nat} {bytes : ByteArray} (hx : p.tables.exec = Jvm.exec) (hZ : Z.Warmed39 s.vm) (wc : (Jvm.Cond.code ⟨"java/lang/Object", "equals", "(Ljava/lang/Object;)Z"⟩ bytes 2 (some .boolean)).before a0 Z = true) {a : Addr} {x : Value} (hr : x.isRef = true) {same : Bool} (hsame : decide ((.ref a : Value) = x) = same) (hf : 1 ≤ R.frames) (hl : W + 13 ≤ R.locals)
    (hb : decode bytes 0 = .ok (.aload_n 0, 1) ∧ decode bytes 1 = .ok (.aload_n 1, 1) ∧ decode bytes 2 = .ok (.if_acmp .ne 7, 3) ∧ decode bytes 5 = .ok (.iconst 1, 1) ∧ decode bytes 6 = .ok (.goto 4, 3) ∧ decode bytes 9 = .ok (.iconst 0, 1) ∧ decode bytes 10 = .ok (.ireturn, 1) := by decide +kernel) :
    Back l R p e below s args ⟨"java/lang/Object", "equals", "(Ljava/lang/Object;)Z"⟩ len W (fun A a' => a' = #[.ref a, x] ∧ A.U.heap = h ∧ A.cells + 0 ≤ R.cells ∧ A.slots + 0 ≤ R.slots)
      (fun A _ v B => ∃ L, (v = some (.int (if same then 1 else 0)) ∧ Fr n0 L ∧ B.U.heap = h) ∧ B.locs = A.locs ++ L ∧ B.cells = A.cells + 0 ∧ B.slots = A.slots + 0) := by
  intro m meth c A g ig mk a' X hg hsize hdg hW hn hp
  obtain ⟨U, Ls, c0, s0⟩ := A
  dsimp only [Pt.U, Pt.locs, Pt.cells, Pt.slots] at X hn hp ⊢
  obtain ⟨rfl, hh, -, -⟩ := hp
  obtain ⟨d0, d1, d2, d5, d6, d9, d10⟩ := hb
  have hU := wtrans hZ X.warmed
  obtain ⟨methY, cY, hmY, hcY, hbY, hlY, hrY, hkY, -, -⟩ := Cond.code_spec hn (mv hU wc (args := #[]))
  refine ⟨some (.int (if same then 1 else 0)), ⟨U, Ls, c0, s0⟩, X, ⟨[], ⟨rfl, Fr.nil n0, hh⟩, by simp, rfl, rfl⟩, ?_⟩
  subst hg
  have hA := At.enter X.here (g := g) #[.ref a, x] hmY hcY (State.plainMethod.of_named (x := ⟨"java/lang/Object", "equals", "(Ljava/lang/Object;)Z"⟩) (by decide +kernel) hn hmY)
  rw [doInvoke_enter X.here.top [] hmY hcY hkY (X.notFull hsize hf (by rw [hlY]; omega))]
  rw [hlY] at hA ⊢
  have hfV := frames_entered (g := g) X.here.top (.java (entryFrame mk #[.ref a, x] 2))
  have hsV := setFrames_entered (g := g) X.here.top (.java (entryFrame mk #[.ref a, x] 2))
  have hvV : ((U.setTop g).pushFrame (.java (entryFrame mk #[.ref a, x] 2))).vm = U.vm := by simp [State.pushFrame, State.setFrames]
  have hcV : ((U.setTop g).pushFrame (.java (entryFrame mk #[.ref a, x] 2))).code? g.method = some c := by
    have := X.here.code; rw [State.code?_eq] at this ⊢; simpa [State.pushFrame, State.setFrames] using this
  have ef : entryFrame mk #[.ref a, x] 2 = mkF mk 0 #[.val (.ref a), .val x] [] := by cases x <;> first | rfl | cases hr
  generalize hV : (U.setTop g).pushFrame (.java (entryFrame mk #[.ref a, x] 2)) = V at hA hfV hsV hvV hcV ⊢
  rw [ef]
  have hmV : V.vm.method? mk = some methY := by rw [hvV]; exact hmY
  have last : ∀ z : Int32, (z = 1 ∨ z = 0) → Steps p.tables e below (V.setTop (mkF mk 10 #[.val (.ref a), .val x] [.int z])) (U.setTop { g with pc := g.pc + len, stack := (some (.int z) : Option Value).toList ++ g.stack }) := by
    intro z hz
    have hnz : narrow .boolean (.int z) = .int z := by rcases hz with rfl | rfl <;> rfl
    show Steps p.tables e below (V.setTop { method := mk, pc := 10, locals := #[.val (.ref a), .val x], stack := [.int z], locked := none }) _
    have key : ∀ (f : JFrame) (acts : List Action), f.method = mk → f.locked = none → f.entered = [] → (doReturn e (V.setTop f) acts (some (.int z))).1 = U.setTop { g with pc := g.pc + len, stack := (some (.int z) : Option Value).toList ++ g.stack } := by
      intro f acts q1 q2 q3
      rw [doReturn_leave (g := g) (meth := methY) (cg := c) (ig := ig) (len := len) acts hfV (by rw [q1]; exact hmV) hkY q2 q3 hcV hdg, hsV, State.setTop_setTop]
    jvm_step hA [hA.top, hx, (show decode cY.code 10 = .ok (.ireturn, 1) by rw [hbY]; exact d10), hmV, hrY, hnz]
    first | (intro acts; rw [key _ acts rfl rfl rfl]; exact Steps.refl _) | (rw [key _ _ rfl rfl rfl]; exact Steps.refl _)
  refine XS.aloadN hA hx rfl (by rw [hbY]; exact d0) rfl rfl ?_
  refine XS.aloadN hA hx rfl (by rw [hbY]; exact d1) rfl hr ?_
  by_cases b : (.ref a : Value) = x
  · have e1 : same = true := by rw [← hsame]; exact decide_eq_true b
    subst e1
    refine Jvm.Free.XT.acmpNo hA hx rfl (by rw [hbY]; exact d2) rfl rfl hr (Jvm.Free.XT.aa_ne_f b) ?_
    refine Jvm.Free.XT.iconstV hA hx rfl 1 (by rw [hbY]; exact d5) (by decide) ?_
    refine XS.goto hA hx rfl (pc0 := 6) (pc' := 10) rfl (by rw [hbY]; exact d6) (by decide) (by decide) ?_
    exact last 1 (Or.inl rfl)
  · have e1 : same = false := by rw [← hsame]; exact decide_eq_false b
    subst e1
    refine Jvm.Free.XT.acmpYes hA hx rfl (pc0 := 2) (pc' := 9) rfl (by rw [hbY]; exact d2) rfl rfl hr (Jvm.Free.XT.aa_ne_t b) (by decide) (by decide) ?_
    refine Jvm.Free.XT.iconstV hA hx rfl 0 (by rw [hbY]; exact d9) (by decide) ?_
    exact last 0 (Or.inr rfl)
end Own483
abbrev own_K (a0 : Array Value) (Z : State) (y : String) (b : ByteArray) (ml : Nat) (nm : String) (rt : Option FieldType) (p : Program) (s : State) (m : MethodId) (meth : Method) (c : Code) : Prop := HW a0 Z ∧ p.tables.exec = Jvm.exec ∧ c.code = b ∧ c.maxLocals = ml ∧ s.vm.findClass y = some m.cls ∧ meth.name = nm ∧ meth.sig.returnType = rt ∧ meth.locks = false ∧ Z.Warmed39 s.vm
abbrev own_O (Z : State) (rc rs : Nat) (Q : Option Value → Heap → Prop) (s : State) : State → Outcome → Prop := fun U o => ∃ v L, o = .returned v ∧ Q v U.heap ∧ Ext Z.heap U.heap ∧ Fr Z.heap.size L ∧ FrameEnd s o U L rc rs
/-- from this frame the run comes to an end of which Q holds, in whatever state that stands there -/
def own_A (l : Launch) (Z : State) (a0 : Array Value) (y : String) (b : ByteArray) (ml : Nat) (nm : String) (rt : Option FieldType) (R : Room) (A : Array Value) (rc rs : Nat) (Q : Option Value → Heap → Prop) (h : Heap) (cells slots pc : Nat) (Ls : Array Slot) (S : List Value) : Prop :=
  ∀ (p : Program) (e : Env) (s : State) (m : MethodId) (below : List Frame) (meth : Method) (c : Code) (T : State) (L : List Loc), own_K a0 Z y b ml nm rt p s m meth c → Ext Z.heap h → Stand p l e R s m A below meth c T L cells slots → T.heap = h → Fr Z.heap.size L → own_Fin p e below (own_O Z rc rs Q s) T (mkF m pc Ls S)
/-- a method's contract -/
def own_M (l : Launch) (Z : State) (h0 : Heap) (y : MethodName) (b : ByteArray) (n : Nat) (r : Option FieldType) (rf rc rs rl : Nat) (A : Array Value) (Q : Option Value → Heap → Prop) : Prop :=
  Ext Z.heap h0 → ∀ ws : List Jvm.Cond, MetFree l y (head1 (Jvm.Cond.code y b n r :: ws) { frames := rf, cells := rc, slots := rs, locals := rl }) (fun a U => a = A ∧ Z.Warmed39 U.vm ∧ U.heap = h0) (fun _ _ _ _ _ => True) (fun _ U o U' => ∃ v L, o = .returned v ∧ (Q v U'.heap ∧ Ext Z.heap U'.heap ∧ Fr Z.heap.size L) ∧ FrameEnd U o U' L rc rs)
def own_MW (l : Launch) (Z : State) (h0 : Heap) (y : MethodName) (b : ByteArray) (n : Nat) (r : Option FieldType) (hds : List (Nat × Nat × Nat × Nat)) (rf rc rs rl : Nat) (A : Array Value) (Q : Option Value → Heap → Prop) : Prop :=
  Ext Z.heap h0 → ∀ ws : List Jvm.Cond, MetFree l y (head1 (Jvm.Cond.codeWith y b n r hds :: ws) { frames := rf, cells := rc, slots := rs, locals := rl }) (fun a U => a = A ∧ Z.Warmed39 U.vm ∧ U.heap = h0) (fun _ _ _ _ _ => True) (fun _ U o U' => ∃ v L, o = .returned v ∧ (Q v U'.heap ∧ Ext Z.heap U'.heap ∧ Fr Z.heap.size L) ∧ FrameEnd U o U' L rc rs)
abbrev own_pu : Option Value → List Value → List Value | none, S => S | some v, S => v :: S
def own_isR (d : String) : Bool := match parseFieldDescriptor d with | some (.object _) => true | some (.array _) => true | _ => false
theorem own_isR_spec {d : String} (q : own_isR d = true) : ∃ ty, parseFieldDescriptor d = some ty ∧ defaultValue ty = .null ∧ narrow ty .null = .null ∧ fits ty .null = true ∧ ∀ a, narrow ty (.ref a) = .ref a ∧ fits ty (.ref a) = true := by
  unfold own_isR at q
  split at q
  · rename_i C e; exact ⟨_, e, rfl, rfl, rfl, fun _ => ⟨rfl, rfl⟩⟩
  · rename_i C e; exact ⟨_, e, rfl, rfl, rfl, fun _ => ⟨rfl, rfl⟩⟩
  · cases q
def own_lc (x y : Int64) : Int32 := if x > y then 1 else if x = y then 0 else -1
section Direct
variable {l : Launch} {Z : State} {a0 : Array Value} {y : String} {b : ByteArray} {ml : Nat} {nm : String} {rt : Option FieldType} {R : Room} {A : Array Value} {rc rs : Nat} {Q : Option Value → Heap → Prop} {h : Heap} {cells slots pc pc' : Nat} {Ls l' : Array Slot} {S S' : List Value} {v v' : Value} {x x' : Int32} {a a' : Addr}
/-- where the tables lay a field -/
theorem lA (hw : HW a0 Z) (i : Nat) {C O n d : String} (w : tables_1[i]? = some (Jvm.Cond.lays C O n d) := by rfl) : Laid Z a0 C O n d := Or.inl (WW hw i w)
theorem lB (hw : HW a0 Z) (i : Nat) {C O n d : String} (w : tables_1[i]? = some (Jvm.Cond.laysFinal C O n d) := by rfl) : Laid Z a0 C O n d := Or.inr (WW hw i w)
abbrev own_D (Z : State) (a0 : Array Value) (C : String) (h : Heap) (a : Addr) : Prop := ∀ (O n d : String) (ty : FieldType), Laid Z a0 C O n d → parseFieldDescriptor d = some ty → Fld Z h a O n d (defaultValue ty)
theorem dN {C O n d : String} (D : own_D Z a0 C h a) (L : Laid Z a0 C O n d) (r : own_isR d = true := by decide +kernel) : Fld Z h a O n d .null := by
  obtain ⟨ty, e, q, -⟩ := own_isR_spec r
  rw [← q]; exact D _ _ _ _ L e
theorem dI {C O n : String} (D : own_D Z a0 C h a) (L : Laid Z a0 C O n "I") : Fld Z h a O n "I" (.int 0) := D _ _ _ .int L (by decide)
theorem dZ {C O n : String} (D : own_D Z a0 C h a) (L : Laid Z a0 C O n "Z") : Fld Z h a O n "Z" (.int 0) := D _ _ _ .boolean L (by decide)
theorem dJ {C O n : String} (D : own_D Z a0 C h a) (L : Laid Z a0 C O n "J") : Fld Z h a O n "J" (.long 0) := D _ _ _ .long L (by decide)
theorem dF {C O n : String} (D : own_D Z a0 C h a) (L : Laid Z a0 C O n "F") : Fld Z h a O n "F" (.float 0) := D _ _ _ .float L (by decide)
def own_isP (d : String) : Bool := (parseFieldDescriptor d).isSome
theorem fS {C O n d O' n' d' : String} {h' : Heap} (F : Fld Z h a O n d v) (W : Wr h h' a (Jvm.RoadKit.slotOf Z O' n' d') v') (L : Laid Z a0 C O n d) (L' : Laid Z a0 C O' n' d') (hn : n ≠ n' := by decide) (p : own_isP d = true := by decide +kernel) (p' : own_isP d' = true := by decide +kernel) : Fld Z h' a O n d v := by
  obtain ⟨t, e⟩ := Option.isSome_iff_exists.mp p
  obtain ⟨t', e'⟩ := Option.isSome_iff_exists.mp p'
  exact F.other W (Or.inr (slot_ne L L' hn e e'))
theorem fW {C n d : String} {h' : Heap} {sl : Nat} (F : Fld Z h a C n d v) (W : Wr h h' a' sl v') (q : a ≠ a') : Fld Z h' a C n d v := F.other W (Or.inl q)
theorem own_lo {x y k : Nat} (p : x < k) (q : k ≤ y) : x ≠ y := Nat.ne_of_lt (Nat.lt_of_lt_of_le p q)
theorem own_dn (q : a ≠ a') : decide ((.ref a : Value) = .ref a') = false := decide_eq_false fun e => q (Value.ref.inj e)
theorem own_soft (st : ∀ (p : Program) (e : Env) (m : MethodId) (below : List Frame) (c : Code) (T t : State), Jvm.At T m c below → p.tables.exec = Jvm.exec → c.code = b → Steps p.tables e below (T.setTop (mkF m pc' l' S')) t → Steps p.tables e below (T.setTop (mkF m pc Ls S)) t) (K : own_A l Z a0 y b ml nm rt R A rc rs Q h cells slots pc' l' S') : own_A l Z a0 y b ml nm rt R A rc rs Q h cells slots pc Ls S := by
  intro p e s m below meth c T L B E X eT N
  exact own_go (fun t => st p e m below c T t X.here B.2.1 B.2.2.1) (K p e s m below meth c T L B E X eT N)
theorem own_mono {cells' slots' : Nat} (K : own_A l Z a0 y b ml nm rt R A rc rs Q h cells' slots' pc Ls S) (h1 : cells ≤ cells' := by decide) (h2 : slots ≤ slots' := by decide) : own_A l Z a0 y b ml nm rt R A rc rs Q h cells slots pc Ls S := by
  intro p e s m below meth c T L B E X eT N
  exact K p e s m below meth c T L B E { X with same := X.same.mono h1 h2 } eT N
theorem own_z (K : Z.heap.size ≤ h.size → own_A l Z a0 y b ml nm rt R A rc rs Q h cells slots pc Ls S) : own_A l Z a0 y b ml nm rt R A rc rs Q h cells slots pc Ls S := by
  intro p e s m below meth c T L B E X eT N
  exact K E.1 p e s m below meth c T L B E X eT N
theorem stV {k : ClassId} {ty : FieldType} {z : Int32} {vs : List Value} {dv : Value} {C : String} (V : Arv Z h a k ty z vs dv) (O : Ovr Z k C) (I : Ins Z h a' C true) : Sto Z h a (.ref a') := by
  obtain ⟨c, A, q, -⟩ := V
  exact Sto.ofV A q O I
theorem mI (i : Nat) {L : List Addr} {q : Prop} (w : L[i]? = some a := by rfl) : a ∈ L ∨ q := Or.inl (List.mem_of_getElem? w)
theorem own_ent {h0 : Heap} {y : MethodName} {maxL rf rl : Nat} (hw : HW a0 Z) (hp : plainFor y = true) (Ls : Array Slot) (ef : ∀ m, entryFrame m A maxL = mkF m 0 Ls []) (k : ∀ Q' : Option Value → Heap → Prop, (∀ v h, Q v h → Q' v h) → own_A l Z a0 y.cls b maxL y.name rt { frames := rf, cells := rc, slots := rs, locals := rl } A rc rs Q' h0 0 0 0 Ls []) : own_M l Z h0 y b maxL rt rf rc rs rl A Q := by
  intro hE ws
  refine own_enter (n0 := Z.heap.size) hp ef ?_
  intro p e s m below meth c s₁ hx hby hml hown hnm hret hlk X0 e0 hZ hh N0
  obtain ⟨U, o, h1, h2, h3, v, L, h4, h5, h6, h7, h8⟩ := k Q (fun _ _ q => q) p e s m below meth c s₁ [] ⟨hw, hx, hby, hml, hown, hnm, hret, hlk, hZ⟩ hE X0 e0 N0
  exact ⟨U, o, h1, h2, h3, v, L, h4, ⟨h5, h6, h7⟩, h8⟩
theorem own_entW {h0 : Heap} {y : MethodName} {maxL rf rl : Nat} {hds : List (Nat × Nat × Nat × Nat)} (hw : HW a0 Z) (hp : plainFor y = true) (Ls : Array Slot) (ef : ∀ m, entryFrame m A maxL = mkF m 0 Ls []) (k : ∀ Q' : Option Value → Heap → Prop, (∀ v h, Q v h → Q' v h) → own_A l Z a0 y.cls b maxL y.name rt { frames := rf, cells := rc, slots := rs, locals := rl } A rc rs Q' h0 0 0 0 Ls []) : own_MW l Z h0 y b maxL rt hds rf rc rs rl A Q := by
  intro hE ws
  refine own_enterW (n0 := Z.heap.size) hp ef ?_
  intro p e s m below meth c s₁ hx hby hml hown hnm hret hlk X0 e0 hZ hh N0
  obtain ⟨U, o, h1, h2, h3, v, L, h4, h5, h6, h7, h8⟩ := k Q (fun _ _ q => q) p e s m below meth c s₁ [] ⟨hw, hx, hby, hml, hown, hnm, hret, hlk, hZ⟩ hE X0 e0 N0
  exact ⟨U, o, h1, h2, h3, v, L, h4, ⟨h5, h6, h7⟩, h8⟩
def own_nf (Z : State) (a0 : Array Value) (z : MethodName) : Prop := ∀ s : State, Z.Warmed39 s.vm → NotFace s z
theorem nfS (hw : HW a0 Z) (i : Nat) {C : String} {z : MethodName} (w : tables_1[i]? = some (Jvm.Cond.selects C z z) := by rfl) : own_nf Z a0 z := fun _ hZ => notFace_of_selects (args := #[]) (mvT hZ (WW hw i w))
theorem nfU (hw : HW a0 Z) (i : Nat) {D : String} {z : MethodName} (w : tables_1[i]? = some (Jvm.Cond.superclass z.cls D) := by rfl) : own_nf Z a0 z := fun _ hZ => nf_super (args := #[]) (S := _) (mvT hZ (WW hw i w))
theorem nfT (hw : HW a0 Z) (i : Nat) {z : MethodName} (w : tables_1[i]? = some (Jvm.Cond.noSuperclass z.cls) := by rfl) : own_nf Z a0 z := fun _ hZ => nf_top (args := #[]) (mvT hZ (WW hw i w))
theorem jLa {k : Fin 4} (d : DC b pc (.aload_n k) 1) (q : Ls[k.val]? = some (.val (.ref a))) (K : own_A l Z a0 y b ml nm rt R A rc rs Q h cells slots (pc + 1) Ls (.ref a :: S)) : own_A l Z a0 y b ml nm rt R A rc rs Q h cells slots pc Ls S := own_soft (fun _ _ _ _ _ _ _ X hx hy r => XS.aloadN X hx rfl (hb hy d) q rfl r) K
theorem jnLa {k : Fin 4} (d : DC b pc (.aload_n k) 1) (q : Ls[k.val]? = some (.val .null)) (K : own_A l Z a0 y b ml nm rt R A rc rs Q h cells slots (pc + 1) Ls (.null :: S)) : own_A l Z a0 y b ml nm rt R A rc rs Q h cells slots pc Ls S := own_soft (fun _ _ _ _ _ _ _ X hx hy r => XS.aloadN X hx rfl (hb hy d) q rfl r) K
theorem jLA {k : Nat} (d : DC b pc (.aload k) 2) (q : Ls[k]? = some (.val (.ref a))) (K : own_A l Z a0 y b ml nm rt R A rc rs Q h cells slots (pc + 2) Ls (.ref a :: S)) : own_A l Z a0 y b ml nm rt R A rc rs Q h cells slots pc Ls S := own_soft (fun _ _ _ _ _ _ _ X hx hy r => XS.aload X hx rfl (hb hy d) q rfl r) K
theorem jLi {k : Fin 4} (d : DC b pc (.iload_n k) 1) (q : Ls[k.val]? = some (.val (.int x))) (K : own_A l Z a0 y b ml nm rt R A rc rs Q h cells slots (pc + 1) Ls (.int x :: S)) : own_A l Z a0 y b ml nm rt R A rc rs Q h cells slots pc Ls S := own_soft (fun _ _ _ _ _ _ _ X hx hy r => XS.iloadN X hx rfl (hb hy d) q r) K
theorem jLI {k : Nat} (d : DC b pc (.iload k) 2) (q : Ls[k]? = some (.val (.int x))) (K : own_A l Z a0 y b ml nm rt R A rc rs Q h cells slots (pc + 2) Ls (.int x :: S)) : own_A l Z a0 y b ml nm rt R A rc rs Q h cells slots pc Ls S := own_soft (fun _ _ _ _ _ _ _ X hx hy r => XS.iload X hx rfl (hb hy d) q r) K
theorem jLj {k : Fin 4} {w : Int64} (d : DC b pc (.lload_n k) 1) (q : Ls[k.val]? = some (.val (.long w))) (K : own_A l Z a0 y b ml nm rt R A rc rs Q h cells slots (pc + 1) Ls (.long w :: S)) : own_A l Z a0 y b ml nm rt R A rc rs Q h cells slots pc Ls S := own_soft (fun _ _ _ _ _ _ _ X hx hy r => XS.lloadN X hx rfl (hb hy d) q r) K
theorem jta {k : Fin 4} (d : DC b pc (.astore_n k) 1) (l' : Array Slot) (q : storeLocals Ls k.val (.ref a) = some l') (K : own_A l Z a0 y b ml nm rt R A rc rs Q h cells slots (pc + 1) l' S) : own_A l Z a0 y b ml nm rt R A rc rs Q h cells slots pc Ls (.ref a :: S) := own_soft (fun _ _ _ _ _ _ _ X hx hy r => XS.astoreN X hx rfl (hb hy d) rfl rfl q r) K
theorem jnta {k : Fin 4} (d : DC b pc (.astore_n k) 1) (l' : Array Slot) (q : storeLocals Ls k.val .null = some l') (K : own_A l Z a0 y b ml nm rt R A rc rs Q h cells slots (pc + 1) l' S) : own_A l Z a0 y b ml nm rt R A rc rs Q h cells slots pc Ls (.null :: S) := own_soft (fun _ _ _ _ _ _ _ X hx hy r => XS.astoreN X hx rfl (hb hy d) rfl rfl q r) K
theorem jtA {k : Nat} (d : DC b pc (.astore k) 2) (l' : Array Slot) (q : storeLocals Ls k (.ref a) = some l') (K : own_A l Z a0 y b ml nm rt R A rc rs Q h cells slots (pc + 2) l' S) : own_A l Z a0 y b ml nm rt R A rc rs Q h cells slots pc Ls (.ref a :: S) := own_soft (fun _ _ _ _ _ _ _ X hx hy r => XS.astore X hx rfl (hb hy d) rfl rfl q r) K
theorem jntA {k : Nat} (d : DC b pc (.astore k) 2) (l' : Array Slot) (q : storeLocals Ls k .null = some l') (K : own_A l Z a0 y b ml nm rt R A rc rs Q h cells slots (pc + 2) l' S) : own_A l Z a0 y b ml nm rt R A rc rs Q h cells slots pc Ls (.null :: S) := own_soft (fun _ _ _ _ _ _ _ X hx hy r => XS.astore X hx rfl (hb hy d) rfl rfl q r) K
theorem jti {k : Fin 4} (d : DC b pc (.istore_n k) 1) (l' : Array Slot) (q : storeLocals Ls k.val (.int x) = some l') (K : own_A l Z a0 y b ml nm rt R A rc rs Q h cells slots (pc + 1) l' S) : own_A l Z a0 y b ml nm rt R A rc rs Q h cells slots pc Ls (.int x :: S) := own_soft (fun _ _ _ _ _ _ _ X hx hy r => XS.istoreN X hx rfl (hb hy d) rfl q r) K
theorem jtI {k : Nat} (d : DC b pc (.istore k) 2) (l' : Array Slot) (q : storeLocals Ls k (.int x) = some l') (K : own_A l Z a0 y b ml nm rt R A rc rs Q h cells slots (pc + 2) l' S) : own_A l Z a0 y b ml nm rt R A rc rs Q h cells slots pc Ls (.int x :: S) := own_soft (fun _ _ _ _ _ _ _ X hx hy r => XS.istore X hx rfl (hb hy d) rfl q r) K
theorem jkI (x : Int32) {i : Int} (d : DC b pc (.iconst i) 1) (q : Int32.ofInt i = x) (K : own_A l Z a0 y b ml nm rt R A rc rs Q h cells slots (pc + 1) Ls (.int x :: S)) : own_A l Z a0 y b ml nm rt R A rc rs Q h cells slots pc Ls S := by
  subst q
  exact own_soft (fun _ _ _ _ _ _ _ X hx hy r => XS.iconst X hx rfl (hb hy d) r) K
theorem jkB (x : Int32) {i : Int} (d : DC b pc (.bipush i) 2) (q : (Int8.ofInt i).toInt32 = x) (K : own_A l Z a0 y b ml nm rt R A rc rs Q h cells slots (pc + 2) Ls (.int x :: S)) : own_A l Z a0 y b ml nm rt R A rc rs Q h cells slots pc Ls S := by
  subst q
  exact own_soft (fun _ _ _ _ _ _ _ X hx hy r => XS.bipush X hx rfl (hb hy d) r) K
theorem jkS (x : Int32) {i : Int} (d : DC b pc (.sipush i) 3) (q : (Int16.ofInt i).toInt32 = x) (K : own_A l Z a0 y b ml nm rt R A rc rs Q h cells slots (pc + 3) Ls (.int x :: S)) : own_A l Z a0 y b ml nm rt R A rc rs Q h cells slots pc Ls S := by
  subst q
  exact own_soft (fun _ _ _ _ _ _ _ X hx hy r => XS.sipush X hx rfl (hb hy d) r) K
theorem jkN (d : DC b pc (.aconst_null) 1) (K : own_A l Z a0 y b ml nm rt R A rc rs Q h cells slots (pc + 1) Ls (.null :: S)) : own_A l Z a0 y b ml nm rt R A rc rs Q h cells slots pc Ls S := own_soft (fun _ _ _ _ _ _ _ X hx hy r => XS.aconstNull X hx rfl (hb hy d) r) K
theorem jkJ (w : Int64) {k : Fin 2} (d : DC b pc (.lconst k) 1) (q : Int64.ofNat k = w) (K : own_A l Z a0 y b ml nm rt R A rc rs Q h cells slots (pc + 1) Ls (.long w :: S)) : own_A l Z a0 y b ml nm rt R A rc rs Q h cells slots pc Ls S := by
  subst q
  exact own_soft (fun _ _ _ _ _ _ _ X hx hy r => XS.lconst X hx rfl (hb hy d) r) K
theorem jiadd (d : DC b pc (.iadd) 1) (K : own_A l Z a0 y b ml nm rt R A rc rs Q h cells slots (pc + 1) Ls (.int (x + x') :: S)) : own_A l Z a0 y b ml nm rt R A rc rs Q h cells slots pc Ls (.int x' :: .int x :: S) := own_soft (fun _ _ _ _ _ _ _ X hx hy r => XS.iadd X hx rfl (hb hy d) rfl r) K
theorem jisub (d : DC b pc (.isub) 1) (K : own_A l Z a0 y b ml nm rt R A rc rs Q h cells slots (pc + 1) Ls (.int (x - x') :: S)) : own_A l Z a0 y b ml nm rt R A rc rs Q h cells slots pc Ls (.int x' :: .int x :: S) := own_soft (fun _ _ _ _ _ _ _ X hx hy r => XS.isub X hx rfl (hb hy d) rfl r) K
theorem jiand (d : DC b pc (.iand) 1) (K : own_A l Z a0 y b ml nm rt R A rc rs Q h cells slots (pc + 1) Ls (.int (x &&& x') :: S)) : own_A l Z a0 y b ml nm rt R A rc rs Q h cells slots pc Ls (.int x' :: .int x :: S) := own_soft (fun _ _ _ _ _ _ _ X hx hy r => XS.iand X hx rfl (hb hy d) rfl r) K
theorem jl2i {w : Int64} (d : DC b pc (.l2i) 1) (K : own_A l Z a0 y b ml nm rt R A rc rs Q h cells slots (pc + 1) Ls (.int w.toInt32 :: S)) : own_A l Z a0 y b ml nm rt R A rc rs Q h cells slots pc Ls (.long w :: S) := own_soft (fun _ _ _ _ _ _ _ X hx hy r => XS.l2i X hx rfl (hb hy d) rfl r) K
theorem jlcmp {w w' : Int64} (d : DC b pc (.lcmp) 1) (K : own_A l Z a0 y b ml nm rt R A rc rs Q h cells slots (pc + 1) Ls (.int (own_lc w w') :: S)) : own_A l Z a0 y b ml nm rt R A rc rs Q h cells slots pc Ls (.long w' :: .long w :: S) := own_soft (fun _ _ _ _ _ _ _ X hx hy r => XS.lcmp X hx rfl (hb hy d) rfl r) K
theorem jiC {k : Nat} {i : Int} (d : DC b pc (.iinc k i) 3) (l' : Array Slot) (q : Ls[k]? = some (.val (.int x))) (q' : storeLocals Ls k (.int (x + Int32.ofInt i)) = some l') (K : own_A l Z a0 y b ml nm rt R A rc rs Q h cells slots (pc + 3) l' S) : own_A l Z a0 y b ml nm rt R A rc rs Q h cells slots pc Ls S := own_soft (fun _ _ _ _ _ _ _ X hx hy r => XS.iinc X hx rfl (hb hy d) q q' r) K
theorem jdU (d : DC b pc (.dup) 1) (q : v.category = 1) (K : own_A l Z a0 y b ml nm rt R A rc rs Q h cells slots (pc + 1) Ls (v :: v :: S)) : own_A l Z a0 y b ml nm rt R A rc rs Q h cells slots pc Ls (v :: S) := own_soft (fun _ _ _ _ _ _ _ X hx hy r => XS.dup X hx rfl (hb hy d) rfl q r) K
theorem jdX (d : DC b pc (.dup_x1) 1) (q : v.category = 1) (q' : v'.category = 1) (K : own_A l Z a0 y b ml nm rt R A rc rs Q h cells slots (pc + 1) Ls (v :: v' :: v :: S)) : own_A l Z a0 y b ml nm rt R A rc rs Q h cells slots pc Ls (v :: v' :: S) := own_soft (fun _ _ _ _ _ _ _ X hx hy r => XS.dupX1 X hx rfl (hb hy d) rfl q q' r) K
theorem jpO (d : DC b pc (.pop) 1) (q : v.category = 1) (K : own_A l Z a0 y b ml nm rt R A rc rs Q h cells slots (pc + 1) Ls S) : own_A l Z a0 y b ml nm rt R A rc rs Q h cells slots pc Ls (v :: S) := own_soft (fun _ _ _ _ _ _ _ X hx hy r => XS.pop X hx rfl (hb hy d) rfl q r) K
theorem jgo (pc' : Nat) {o : Int} (d : DC b pc (.goto o) 3) (K : own_A l Z a0 y b ml nm rt R A rc rs Q h cells slots pc' Ls S) (h1 : 0 ≤ (pc : Int) + o := by decide) (h2 : ((pc : Int) + o).toNat = pc' := by decide) : own_A l Z a0 y b ml nm rt R A rc rs Q h cells slots pc Ls S := own_soft (fun _ _ _ _ _ _ _ X hx hy r => XS.goto X hx rfl rfl (hb hy d) h1 h2 r) K
theorem jieqY (pc' : Nat) {o : Int} (d : DC b pc (.ifCond .eq o) 3) (q : x = (0 : Int32)) (K : own_A l Z a0 y b ml nm rt R A rc rs Q h cells slots pc' Ls S) (h1 : 0 ≤ (pc : Int) + o := by decide) (h2 : ((pc : Int) + o).toNat = pc' := by decide) : own_A l Z a0 y b ml nm rt R A rc rs Q h cells slots pc Ls (.int x :: S) := own_soft (fun _ _ _ _ _ _ _ X hx hy r => XS.ifYes X hx rfl rfl (hb hy d) rfl ((if0 _ _).trans (teq q).1) h1 h2 r) K
theorem jceqY (pc' : Nat) {o : Int} (d : DC b pc (.if_icmp .eq o) 3) (q : x = x') (K : own_A l Z a0 y b ml nm rt R A rc rs Q h cells slots pc' Ls S) (h1 : 0 ≤ (pc : Int) + o := by decide) (h2 : ((pc : Int) + o).toNat = pc' := by decide) : own_A l Z a0 y b ml nm rt R A rc rs Q h cells slots pc Ls (.int x' :: .int x :: S) := own_soft (fun _ _ _ _ _ _ _ X hx hy r => XS.icmpYes X hx rfl rfl (hb hy d) rfl (teq q).1 h1 h2 r) K
theorem jieqN {o : Int} (d : DC b pc (.ifCond .eq o) 3) (q : ¬ x = (0 : Int32)) (K : own_A l Z a0 y b ml nm rt R A rc rs Q h cells slots (pc + 3) Ls S) : own_A l Z a0 y b ml nm rt R A rc rs Q h cells slots pc Ls (.int x :: S) := own_soft (fun _ _ _ _ _ _ _ X hx hy r => XS.ifNo X hx rfl (hb hy d) rfl ((if0 _ _).trans (feq q).1) r) K
theorem jceqN {o : Int} (d : DC b pc (.if_icmp .eq o) 3) (q : ¬ x = x') (K : own_A l Z a0 y b ml nm rt R A rc rs Q h cells slots (pc + 3) Ls S) : own_A l Z a0 y b ml nm rt R A rc rs Q h cells slots pc Ls (.int x' :: .int x :: S) := own_soft (fun _ _ _ _ _ _ _ X hx hy r => XS.icmpNo X hx rfl (hb hy d) rfl (feq q).1 r) K
theorem jineY (pc' : Nat) {o : Int} (d : DC b pc (.ifCond .ne o) 3) (q : ¬ x = (0 : Int32)) (K : own_A l Z a0 y b ml nm rt R A rc rs Q h cells slots pc' Ls S) (h1 : 0 ≤ (pc : Int) + o := by decide) (h2 : ((pc : Int) + o).toNat = pc' := by decide) : own_A l Z a0 y b ml nm rt R A rc rs Q h cells slots pc Ls (.int x :: S) := own_soft (fun _ _ _ _ _ _ _ X hx hy r => XS.ifYes X hx rfl rfl (hb hy d) rfl ((if0 _ _).trans (feq q).2) h1 h2 r) K
theorem jcneY (pc' : Nat) {o : Int} (d : DC b pc (.if_icmp .ne o) 3) (q : ¬ x = x') (K : own_A l Z a0 y b ml nm rt R A rc rs Q h cells slots pc' Ls S) (h1 : 0 ≤ (pc : Int) + o := by decide) (h2 : ((pc : Int) + o).toNat = pc' := by decide) : own_A l Z a0 y b ml nm rt R A rc rs Q h cells slots pc Ls (.int x' :: .int x :: S) := own_soft (fun _ _ _ _ _ _ _ X hx hy r => XS.icmpYes X hx rfl rfl (hb hy d) rfl (feq q).2 h1 h2 r) K
theorem jineN {o : Int} (d : DC b pc (.ifCond .ne o) 3) (q : x = (0 : Int32)) (K : own_A l Z a0 y b ml nm rt R A rc rs Q h cells slots (pc + 3) Ls S) : own_A l Z a0 y b ml nm rt R A rc rs Q h cells slots pc Ls (.int x :: S) := own_soft (fun _ _ _ _ _ _ _ X hx hy r => XS.ifNo X hx rfl (hb hy d) rfl ((if0 _ _).trans (teq q).2) r) K
theorem jcneN {o : Int} (d : DC b pc (.if_icmp .ne o) 3) (q : x = x') (K : own_A l Z a0 y b ml nm rt R A rc rs Q h cells slots (pc + 3) Ls S) : own_A l Z a0 y b ml nm rt R A rc rs Q h cells slots pc Ls (.int x' :: .int x :: S) := own_soft (fun _ _ _ _ _ _ _ X hx hy r => XS.icmpNo X hx rfl (hb hy d) rfl (teq q).2 r) K
theorem jiltY (pc' : Nat) {o : Int} (d : DC b pc (.ifCond .lt o) 3) (q : x < (0 : Int32)) (K : own_A l Z a0 y b ml nm rt R A rc rs Q h cells slots pc' Ls S) (h1 : 0 ≤ (pc : Int) + o := by decide) (h2 : ((pc : Int) + o).toNat = pc' := by decide) : own_A l Z a0 y b ml nm rt R A rc rs Q h cells slots pc Ls (.int x :: S) := own_soft (fun _ _ _ _ _ _ _ X hx hy r => XS.ifYes X hx rfl rfl (hb hy d) rfl ((if0 _ _).trans (tlt q).1) h1 h2 r) K
theorem jcltY (pc' : Nat) {o : Int} (d : DC b pc (.if_icmp .lt o) 3) (q : x < x') (K : own_A l Z a0 y b ml nm rt R A rc rs Q h cells slots pc' Ls S) (h1 : 0 ≤ (pc : Int) + o := by decide) (h2 : ((pc : Int) + o).toNat = pc' := by decide) : own_A l Z a0 y b ml nm rt R A rc rs Q h cells slots pc Ls (.int x' :: .int x :: S) := own_soft (fun _ _ _ _ _ _ _ X hx hy r => XS.icmpYes X hx rfl rfl (hb hy d) rfl (tlt q).1 h1 h2 r) K
theorem jiltN {o : Int} (d : DC b pc (.ifCond .lt o) 3) (q : ¬ x < (0 : Int32)) (K : own_A l Z a0 y b ml nm rt R A rc rs Q h cells slots (pc + 3) Ls S) : own_A l Z a0 y b ml nm rt R A rc rs Q h cells slots pc Ls (.int x :: S) := own_soft (fun _ _ _ _ _ _ _ X hx hy r => XS.ifNo X hx rfl (hb hy d) rfl ((if0 _ _).trans (flt q).1) r) K
theorem jcltN {o : Int} (d : DC b pc (.if_icmp .lt o) 3) (q : ¬ x < x') (K : own_A l Z a0 y b ml nm rt R A rc rs Q h cells slots (pc + 3) Ls S) : own_A l Z a0 y b ml nm rt R A rc rs Q h cells slots pc Ls (.int x' :: .int x :: S) := own_soft (fun _ _ _ _ _ _ _ X hx hy r => XS.icmpNo X hx rfl (hb hy d) rfl (flt q).1 r) K
theorem jcgeY (pc' : Nat) {o : Int} (d : DC b pc (.if_icmp .ge o) 3) (q : ¬ x < x') (K : own_A l Z a0 y b ml nm rt R A rc rs Q h cells slots pc' Ls S) (h1 : 0 ≤ (pc : Int) + o := by decide) (h2 : ((pc : Int) + o).toNat = pc' := by decide) : own_A l Z a0 y b ml nm rt R A rc rs Q h cells slots pc Ls (.int x' :: .int x :: S) := own_soft (fun _ _ _ _ _ _ _ X hx hy r => XS.icmpYes X hx rfl rfl (hb hy d) rfl (flt q).2.1 h1 h2 r) K
theorem jcgeN {o : Int} (d : DC b pc (.if_icmp .ge o) 3) (q : x < x') (K : own_A l Z a0 y b ml nm rt R A rc rs Q h cells slots (pc + 3) Ls S) : own_A l Z a0 y b ml nm rt R A rc rs Q h cells slots pc Ls (.int x' :: .int x :: S) := own_soft (fun _ _ _ _ _ _ _ X hx hy r => XS.icmpNo X hx rfl (hb hy d) rfl (tlt q).2.1 r) K
theorem jigtY (pc' : Nat) {o : Int} (d : DC b pc (.ifCond .gt o) 3) (q : (0 : Int32) < x) (K : own_A l Z a0 y b ml nm rt R A rc rs Q h cells slots pc' Ls S) (h1 : 0 ≤ (pc : Int) + o := by decide) (h2 : ((pc : Int) + o).toNat = pc' := by decide) : own_A l Z a0 y b ml nm rt R A rc rs Q h cells slots pc Ls (.int x :: S) := own_soft (fun _ _ _ _ _ _ _ X hx hy r => XS.ifYes X hx rfl rfl (hb hy d) rfl ((if0 _ _).trans (tlt q).2.2.1) h1 h2 r) K
theorem jcgtY (pc' : Nat) {o : Int} (d : DC b pc (.if_icmp .gt o) 3) (q : x' < x) (K : own_A l Z a0 y b ml nm rt R A rc rs Q h cells slots pc' Ls S) (h1 : 0 ≤ (pc : Int) + o := by decide) (h2 : ((pc : Int) + o).toNat = pc' := by decide) : own_A l Z a0 y b ml nm rt R A rc rs Q h cells slots pc Ls (.int x' :: .int x :: S) := own_soft (fun _ _ _ _ _ _ _ X hx hy r => XS.icmpYes X hx rfl rfl (hb hy d) rfl (tlt q).2.2.1 h1 h2 r) K
theorem jigtN {o : Int} (d : DC b pc (.ifCond .gt o) 3) (q : ¬ (0 : Int32) < x) (K : own_A l Z a0 y b ml nm rt R A rc rs Q h cells slots (pc + 3) Ls S) : own_A l Z a0 y b ml nm rt R A rc rs Q h cells slots pc Ls (.int x :: S) := own_soft (fun _ _ _ _ _ _ _ X hx hy r => XS.ifNo X hx rfl (hb hy d) rfl ((if0 _ _).trans (flt q).2.2.1) r) K
theorem jcgtN {o : Int} (d : DC b pc (.if_icmp .gt o) 3) (q : ¬ x' < x) (K : own_A l Z a0 y b ml nm rt R A rc rs Q h cells slots (pc + 3) Ls S) : own_A l Z a0 y b ml nm rt R A rc rs Q h cells slots pc Ls (.int x' :: .int x :: S) := own_soft (fun _ _ _ _ _ _ _ X hx hy r => XS.icmpNo X hx rfl (hb hy d) rfl (flt q).2.2.1 r) K
theorem jcleY (pc' : Nat) {o : Int} (d : DC b pc (.if_icmp .le o) 3) (q : ¬ x' < x) (K : own_A l Z a0 y b ml nm rt R A rc rs Q h cells slots pc' Ls S) (h1 : 0 ≤ (pc : Int) + o := by decide) (h2 : ((pc : Int) + o).toNat = pc' := by decide) : own_A l Z a0 y b ml nm rt R A rc rs Q h cells slots pc Ls (.int x' :: .int x :: S) := own_soft (fun _ _ _ _ _ _ _ X hx hy r => XS.icmpYes X hx rfl rfl (hb hy d) rfl (flt q).2.2.2 h1 h2 r) K
theorem jileN {o : Int} (d : DC b pc (.ifCond .le o) 3) (q : (0 : Int32) < x) (K : own_A l Z a0 y b ml nm rt R A rc rs Q h cells slots (pc + 3) Ls S) : own_A l Z a0 y b ml nm rt R A rc rs Q h cells slots pc Ls (.int x :: S) := own_soft (fun _ _ _ _ _ _ _ X hx hy r => XS.ifNo X hx rfl (hb hy d) rfl ((if0 _ _).trans (tlt q).2.2.2) r) K
theorem jcleN {o : Int} (d : DC b pc (.if_icmp .le o) 3) (q : x' < x) (K : own_A l Z a0 y b ml nm rt R A rc rs Q h cells slots (pc + 3) Ls S) : own_A l Z a0 y b ml nm rt R A rc rs Q h cells slots pc Ls (.int x' :: .int x :: S) := own_soft (fun _ _ _ _ _ _ _ X hx hy r => XS.icmpNo X hx rfl (hb hy d) rfl (tlt q).2.2.2 r) K
theorem jzY (pc' : Nat) {o : Int} (d : DC b pc (.ifnull o) 3) (K : own_A l Z a0 y b ml nm rt R A rc rs Q h cells slots pc' Ls S) (h1 : 0 ≤ (pc : Int) + o := by decide) (h2 : ((pc : Int) + o).toNat = pc' := by decide) : own_A l Z a0 y b ml nm rt R A rc rs Q h cells slots pc Ls (.null :: S) := own_soft (fun _ _ _ _ _ _ _ X hx hy r => XS.ifnullYes X hx rfl rfl (hb hy d) rfl h1 h2 r) K
theorem jzN {o : Int} (d : DC b pc (.ifnull o) 3) (K : own_A l Z a0 y b ml nm rt R A rc rs Q h cells slots (pc + 3) Ls S) : own_A l Z a0 y b ml nm rt R A rc rs Q h cells slots pc Ls (.ref a :: S) := own_soft (fun _ _ _ _ _ _ _ X hx hy r => XS.ifnullNo X hx rfl (hb hy d) rfl r) K
theorem jyY (pc' : Nat) {o : Int} (d : DC b pc (.ifnonnull o) 3) (K : own_A l Z a0 y b ml nm rt R A rc rs Q h cells slots pc' Ls S) (h1 : 0 ≤ (pc : Int) + o := by decide) (h2 : ((pc : Int) + o).toNat = pc' := by decide) : own_A l Z a0 y b ml nm rt R A rc rs Q h cells slots pc Ls (.ref a :: S) := own_soft (fun _ _ _ _ _ _ _ X hx hy r => XS.ifnonnullYes X hx rfl rfl (hb hy d) rfl h1 h2 r) K
theorem jyN {o : Int} (d : DC b pc (.ifnonnull o) 3) (K : own_A l Z a0 y b ml nm rt R A rc rs Q h cells slots (pc + 3) Ls S) : own_A l Z a0 y b ml nm rt R A rc rs Q h cells slots pc Ls (.null :: S) := own_soft (fun _ _ _ _ _ _ _ X hx hy r => XS.ifnonnullNo X hx rfl (hb hy d) rfl r) K
theorem jtw (pc' : Nat) {dflt low high o : Int} {offs : Array Int} {len : Nat} (d : DC b pc (.tableswitch dflt low high offs) len) (q : ¬ (x.toInt < low ∨ x.toInt > high)) (q' : offs[(x.toInt - low).toNat]? = some o) (K : own_A l Z a0 y b ml nm rt R A rc rs Q h cells slots pc' Ls S) (h1 : 0 ≤ (pc : Int) + o := by decide) (h2 : ((pc : Int) + o).toNat = pc' := by decide) : own_A l Z a0 y b ml nm rt R A rc rs Q h cells slots pc Ls (.int x :: S) := own_soft (fun _ _ _ _ _ _ _ X hx hy r => XS.tswIn X hx rfl rfl (hb hy d) rfl q q' h1 h2 r) K
theorem jgS (i1 : Nat) {index : Nat} {C n d : String} (F : Sta Z Z.heap C n d v) (dd : DC b pc (.getstatic index) 3) (K : own_A l Z a0 y b ml nm rt R A rc rs Q h cells slots (pc + 3) Ls (v :: S)) (w1 : tables_1[i1]? = some (Jvm.Cond.fieldLink y index C n d) := by rfl) : own_A l Z a0 y b ml nm rt R A rc rs Q h cells slots pc Ls S := by
  intro p e s m below meth c T L B E X eT N
  obtain ⟨hw, hx, hy, hml, hown, hnm, hret, hlk, hZ⟩ := id B
  obtain ⟨T', X', e', st⟩ := getS2 X hx hZ hown (host := "") (Or.inl (WW hw i1 w1)) Via.refl eT (F.ext E) (g := mkF m pc Ls S) rfl (hb hy dd)
  exact own_go st (K p e s m below meth c T' L B E X' e' N)
theorem jgM (i1 : Nat) {index : Nat} {C n d host : String} (F : Sta Z Z.heap C n d v) (dd : DC b pc (.getstatic index) 3) (K : own_A l Z a0 y b ml nm rt R A rc rs Q h cells slots (pc + 3) Ls (v :: S)) (w1 : tables_1[i1]? = some (Jvm.Cond.fieldLinkNest y index C n d host) := by rfl) : own_A l Z a0 y b ml nm rt R A rc rs Q h cells slots pc Ls S := by
  intro p e s m below meth c T L B E X eT N
  obtain ⟨hw, hx, hy, hml, hown, hnm, hret, hlk, hZ⟩ := id B
  obtain ⟨T', X', e', st⟩ := getS2 X hx hZ hown (host := host) (Or.inr (WW hw i1 w1)) Via.refl eT (F.ext E) (g := mkF m pc Ls S) rfl (hb hy dd)
  exact own_go st (K p e s m below meth c T' L B E X' e' N)
theorem jgF (i1 : Nat) {index : Nat} {C n d : String} (F : Fld Z h a C n d v) (dd : DC b pc (.getfield index) 3) (K : own_A l Z a0 y b ml nm rt R A rc rs Q h cells slots (pc + 3) Ls (v :: S)) (w1 : tables_1[i1]? = some (Jvm.Cond.fieldLink y index C n d) := by rfl) : own_A l Z a0 y b ml nm rt R A rc rs Q h cells slots pc Ls (.ref a :: S) := by
  intro p e s m below meth c T L B E X eT N
  obtain ⟨hw, hx, hy, hml, hown, hnm, hret, hlk, hZ⟩ := id B
  obtain ⟨T', X', e', st⟩ := getF X hx hZ hown (host := "") (Or.inl (WW hw i1 w1)) Via.refl eT F (g := mkF m pc Ls (.ref a :: S)) rfl rfl (hb hy dd)
  exact own_go st (K p e s m below meth c T' L B E X' e' N)
theorem jgN (i1 : Nat) {index : Nat} {C n d host : String} (F : Fld Z h a C n d v) (dd : DC b pc (.getfield index) 3) (K : own_A l Z a0 y b ml nm rt R A rc rs Q h cells slots (pc + 3) Ls (v :: S)) (w1 : tables_1[i1]? = some (Jvm.Cond.fieldLinkNest y index C n d host) := by rfl) : own_A l Z a0 y b ml nm rt R A rc rs Q h cells slots pc Ls (.ref a :: S) := by
  intro p e s m below meth c T L B E X eT N
  obtain ⟨hw, hx, hy, hml, hown, hnm, hret, hlk, hZ⟩ := id B
  obtain ⟨T', X', e', st⟩ := getF X hx hZ hown (host := host) (Or.inr (WW hw i1 w1)) Via.refl eT F (g := mkF m pc Ls (.ref a :: S)) rfl rfl (hb hy dd)
  exact own_go st (K p e s m below meth c T' L B E X' e' N)
theorem jgV (i1 i2 : Nat) {index : Nat} {C O n d : String} (F : Fld Z h a O n d v) (dd : DC b pc (.getfield index) 3) (K : own_A l Z a0 y b ml nm rt R A rc rs Q h cells slots (pc + 3) Ls (v :: S)) (w1 : tables_1[i1]? = some (Jvm.Cond.fieldLink y index C n d) := by rfl) (w2 : tables_1[i2]? = some (Jvm.Cond.sameField C O n d) := by rfl) : own_A l Z a0 y b ml nm rt R A rc rs Q h cells slots pc Ls (.ref a :: S) := by
  intro p e s m below meth c T L B E X eT N
  obtain ⟨hw, hx, hy, hml, hown, hnm, hret, hlk, hZ⟩ := id B
  obtain ⟨T', X', e', st⟩ := getF X hx hZ hown (host := "") (Or.inl (WW hw i1 w1)) (Via.of (WW hw i2 w2)) eT F (g := mkF m pc Ls (.ref a :: S)) rfl rfl (hb hy dd)
  exact own_go st (K p e s m below meth c T' L B E X' e' N)
theorem jgR (i1 : Nat) {index : Nat} {C n d : String} (F : Fld Z h a C n d v) (dd : DC b pc (.getfield index) 3) (K : own_A l Z a0 y b ml nm rt R A rc rs Q h cells slots (pc + 3) Ls (v :: S)) (w1 : tables_1[i1]? = some (Jvm.Cond.fieldRef y index C n d) := by rfl) : own_A l Z a0 y b ml nm rt R A rc rs Q h cells slots pc Ls (.ref a :: S) := by
  intro p e s m below meth c T L B E X eT N
  obtain ⟨hw, hx, hy, hml, hown, hnm, hret, hlk, hZ⟩ := id B
  obtain ⟨T', X', e', st⟩ := own_getR X hx hZ hown (WW hw i1 w1) eT F (g := mkF m pc Ls (.ref a :: S)) rfl rfl (hb hy dd)
  exact own_go st (K p e s m below meth c T' L B E X' e' N)
theorem jpFR (i1 i2 i3 : Nat) {index kk : Nat} {C D n d : String} (F : Fld Z h a C n d v) (Ex : Exa Z h a D) (ge : Z.heap.size ≤ a) (dd : DC b pc (.putfield index) 3) (K : ∀ h', Wr h h' a (Jvm.RoadKit.slotOf Z C n d) (.ref a') → Fld Z h' a C n d (.ref a') → own_A l Z a0 y b ml nm rt R A rc rs Q h' cells slots (pc + 3) Ls S) (w1 : tables_1[i1]? = some (Jvm.Cond.fieldLink y index C n d) := by rfl) (w2 : tables_1[i2]? = some (Jvm.Cond.lays D C n d) := by rfl) (w3 : tables_1[i3]? = some (Jvm.Cond.instantiable D kk) := by rfl) (r : own_isR d = true := by decide +kernel) : own_A l Z a0 y b ml nm rt R A rc rs Q h cells slots pc Ls (.ref a' :: .ref a :: S) := by
  intro p e s m below meth c T L B E X eT N
  obtain ⟨hw, hx, hy, hml, hown, hnm, hret, hlk, hZ⟩ := id B
  obtain ⟨ty, q1, -, -, -, q2⟩ := own_isR_spec r
  obtain ⟨T', h', X', e', W', st⟩ := putF X hx hZ hown (host := "") (Or.inl (WW hw i1 w1)) Via.refl eT F Ex (Or.inl (WW hw i2 w2)) (WW hw i3 w3) (ty := ty) q1 (q2 a').1 (q2 a').2 (g := mkF m pc Ls (.ref a' :: .ref a :: S)) rfl rfl (hb hy dd)
  have O' := Old.wr ⟨rfl, E⟩ W' ge
  exact own_go st (K h' W' (F.same W') p e s m below meth c T' _ B O'.2 X' e' (Fr.snoc X' N ge))
theorem jpFN (i1 i2 i3 : Nat) {index kk : Nat} {C D n d : String} (F : Fld Z h a C n d v) (Ex : Exa Z h a D) (ge : Z.heap.size ≤ a) (dd : DC b pc (.putfield index) 3) (K : ∀ h', Wr h h' a (Jvm.RoadKit.slotOf Z C n d) (.null) → Fld Z h' a C n d (.null) → own_A l Z a0 y b ml nm rt R A rc rs Q h' cells slots (pc + 3) Ls S) (w1 : tables_1[i1]? = some (Jvm.Cond.fieldLink y index C n d) := by rfl) (w2 : tables_1[i2]? = some (Jvm.Cond.lays D C n d) := by rfl) (w3 : tables_1[i3]? = some (Jvm.Cond.instantiable D kk) := by rfl) (r : own_isR d = true := by decide +kernel) : own_A l Z a0 y b ml nm rt R A rc rs Q h cells slots pc Ls (.null :: .ref a :: S) := by
  intro p e s m below meth c T L B E X eT N
  obtain ⟨hw, hx, hy, hml, hown, hnm, hret, hlk, hZ⟩ := id B
  obtain ⟨ty, q1, -, q2, q3, -⟩ := own_isR_spec r
  obtain ⟨T', h', X', e', W', st⟩ := putF X hx hZ hown (host := "") (Or.inl (WW hw i1 w1)) Via.refl eT F Ex (Or.inl (WW hw i2 w2)) (WW hw i3 w3) (ty := ty) q1 q2 q3 (g := mkF m pc Ls (.null :: .ref a :: S)) rfl rfl (hb hy dd)
  have O' := Old.wr ⟨rfl, E⟩ W' ge
  exact own_go st (K h' W' (F.same W') p e s m below meth c T' _ B O'.2 X' e' (Fr.snoc X' N ge))
theorem jpFI (i1 i2 i3 : Nat) {index kk : Nat} {C D n : String} (F : Fld Z h a C n "I" v) (Ex : Exa Z h a D) (ge : Z.heap.size ≤ a) (dd : DC b pc (.putfield index) 3) (K : ∀ h', Wr h h' a (Jvm.RoadKit.slotOf Z C n "I") (.int x) → Fld Z h' a C n "I" (.int x) → own_A l Z a0 y b ml nm rt R A rc rs Q h' cells slots (pc + 3) Ls S) (w1 : tables_1[i1]? = some (Jvm.Cond.fieldLink y index C n "I") := by rfl) (w2 : tables_1[i2]? = some (Jvm.Cond.lays D C n "I") := by rfl) (w3 : tables_1[i3]? = some (Jvm.Cond.instantiable D kk) := by rfl)  : own_A l Z a0 y b ml nm rt R A rc rs Q h cells slots pc Ls (.int x :: .ref a :: S) := by
  intro p e s m below meth c T L B E X eT N
  obtain ⟨hw, hx, hy, hml, hown, hnm, hret, hlk, hZ⟩ := id B
  obtain ⟨T', h', X', e', W', st⟩ := putF X hx hZ hown (host := "") (Or.inl (WW hw i1 w1)) Via.refl eT F Ex (Or.inl (WW hw i2 w2)) (WW hw i3 w3) (ty := .int) (by decide) rfl rfl (g := mkF m pc Ls (.int x :: .ref a :: S)) rfl rfl (hb hy dd)
  have O' := Old.wr ⟨rfl, E⟩ W' ge
  exact own_go st (K h' W' (F.same W') p e s m below meth c T' _ B O'.2 X' e' (Fr.snoc X' N ge))
theorem jpFJ (i1 i2 i3 : Nat) {index kk : Nat} {C D n : String} {u : Int64} (F : Fld Z h a C n "J" v) (Ex : Exa Z h a D) (ge : Z.heap.size ≤ a) (dd : DC b pc (.putfield index) 3) (K : ∀ h', Wr h h' a (Jvm.RoadKit.slotOf Z C n "J") (.long u) → Fld Z h' a C n "J" (.long u) → own_A l Z a0 y b ml nm rt R A rc rs Q h' cells slots (pc + 3) Ls S) (w1 : tables_1[i1]? = some (Jvm.Cond.fieldLink y index C n "J") := by rfl) (w2 : tables_1[i2]? = some (Jvm.Cond.lays D C n "J") := by rfl) (w3 : tables_1[i3]? = some (Jvm.Cond.instantiable D kk) := by rfl)  : own_A l Z a0 y b ml nm rt R A rc rs Q h cells slots pc Ls (.long u :: .ref a :: S) := by
  intro p e s m below meth c T L B E X eT N
  obtain ⟨hw, hx, hy, hml, hown, hnm, hret, hlk, hZ⟩ := id B
  obtain ⟨T', h', X', e', W', st⟩ := putF X hx hZ hown (host := "") (Or.inl (WW hw i1 w1)) Via.refl eT F Ex (Or.inl (WW hw i2 w2)) (WW hw i3 w3) (ty := .long) (by decide) rfl rfl (g := mkF m pc Ls (.long u :: .ref a :: S)) rfl rfl (hb hy dd)
  have O' := Old.wr ⟨rfl, E⟩ W' ge
  exact own_go st (K h' W' (F.same W') p e s m below meth c T' _ B O'.2 X' e' (Fr.snoc X' N ge))
theorem jpLR (i1 i2 i3 : Nat) {index kk : Nat} {C D n d : String} (F : Fld Z h a C n d v) (Ex : Exa Z h a D) (ge : Z.heap.size ≤ a) (dd : DC b pc (.putfield index) 3) (K : ∀ h', Wr h h' a (Jvm.RoadKit.slotOf Z C n d) (.ref a') → Fld Z h' a C n d (.ref a') → own_A l Z a0 y b ml nm rt R A rc rs Q h' cells slots (pc + 3) Ls S) (w1 : tables_1[i1]? = some (Jvm.Cond.fieldLink y index C n d) := by rfl) (w2 : tables_1[i2]? = some (Jvm.Cond.laysFinal D C n d) := by rfl) (w3 : tables_1[i3]? = some (Jvm.Cond.instantiable D kk) := by rfl) (r : own_isR d = true := by decide +kernel) (hq : y = C := by rfl) (hi : nm = "<init>" := by rfl) : own_A l Z a0 y b ml nm rt R A rc rs Q h cells slots pc Ls (.ref a' :: .ref a :: S) := by
  intro p e s m below meth c T L B E X eT N
  obtain ⟨hw, hx, hy, hml, hown, hnm, hret, hlk, hZ⟩ := id B
  obtain ⟨ty, q1, -, -, -, q2⟩ := own_isR_spec r
  obtain ⟨T', h', X', e', W', st⟩ := putF X hx hZ hown (host := "") (Or.inl (WW hw i1 w1)) Via.refl eT F Ex (Or.inr ⟨WW hw i2 w2, hq, hnm.trans hi⟩) (WW hw i3 w3) (ty := ty) q1 (q2 a').1 (q2 a').2 (g := mkF m pc Ls (.ref a' :: .ref a :: S)) rfl rfl (hb hy dd)
  have O' := Old.wr ⟨rfl, E⟩ W' ge
  exact own_go st (K h' W' (F.same W') p e s m below meth c T' _ B O'.2 X' e' (Fr.snoc X' N ge))
theorem jpLN (i1 i2 i3 : Nat) {index kk : Nat} {C D n d : String} (F : Fld Z h a C n d v) (Ex : Exa Z h a D) (ge : Z.heap.size ≤ a) (dd : DC b pc (.putfield index) 3) (K : ∀ h', Wr h h' a (Jvm.RoadKit.slotOf Z C n d) (.null) → Fld Z h' a C n d (.null) → own_A l Z a0 y b ml nm rt R A rc rs Q h' cells slots (pc + 3) Ls S) (w1 : tables_1[i1]? = some (Jvm.Cond.fieldLink y index C n d) := by rfl) (w2 : tables_1[i2]? = some (Jvm.Cond.laysFinal D C n d) := by rfl) (w3 : tables_1[i3]? = some (Jvm.Cond.instantiable D kk) := by rfl) (r : own_isR d = true := by decide +kernel) (hq : y = C := by rfl) (hi : nm = "<init>" := by rfl) : own_A l Z a0 y b ml nm rt R A rc rs Q h cells slots pc Ls (.null :: .ref a :: S) := by
  intro p e s m below meth c T L B E X eT N
  obtain ⟨hw, hx, hy, hml, hown, hnm, hret, hlk, hZ⟩ := id B
  obtain ⟨ty, q1, -, q2, q3, -⟩ := own_isR_spec r
  obtain ⟨T', h', X', e', W', st⟩ := putF X hx hZ hown (host := "") (Or.inl (WW hw i1 w1)) Via.refl eT F Ex (Or.inr ⟨WW hw i2 w2, hq, hnm.trans hi⟩) (WW hw i3 w3) (ty := ty) q1 q2 q3 (g := mkF m pc Ls (.null :: .ref a :: S)) rfl rfl (hb hy dd)
  have O' := Old.wr ⟨rfl, E⟩ W' ge
  exact own_go st (K h' W' (F.same W') p e s m below meth c T' _ B O'.2 X' e' (Fr.snoc X' N ge))
theorem jpLI (i1 i2 i3 : Nat) {index kk : Nat} {C D n : String} (F : Fld Z h a C n "I" v) (Ex : Exa Z h a D) (ge : Z.heap.size ≤ a) (dd : DC b pc (.putfield index) 3) (K : ∀ h', Wr h h' a (Jvm.RoadKit.slotOf Z C n "I") (.int x) → Fld Z h' a C n "I" (.int x) → own_A l Z a0 y b ml nm rt R A rc rs Q h' cells slots (pc + 3) Ls S) (w1 : tables_1[i1]? = some (Jvm.Cond.fieldLink y index C n "I") := by rfl) (w2 : tables_1[i2]? = some (Jvm.Cond.laysFinal D C n "I") := by rfl) (w3 : tables_1[i3]? = some (Jvm.Cond.instantiable D kk) := by rfl)  (hq : y = C := by rfl) (hi : nm = "<init>" := by rfl) : own_A l Z a0 y b ml nm rt R A rc rs Q h cells slots pc Ls (.int x :: .ref a :: S) := by
  intro p e s m below meth c T L B E X eT N
  obtain ⟨hw, hx, hy, hml, hown, hnm, hret, hlk, hZ⟩ := id B
  obtain ⟨T', h', X', e', W', st⟩ := putF X hx hZ hown (host := "") (Or.inl (WW hw i1 w1)) Via.refl eT F Ex (Or.inr ⟨WW hw i2 w2, hq, hnm.trans hi⟩) (WW hw i3 w3) (ty := .int) (by decide) rfl rfl (g := mkF m pc Ls (.int x :: .ref a :: S)) rfl rfl (hb hy dd)
  have O' := Old.wr ⟨rfl, E⟩ W' ge
  exact own_go st (K h' W' (F.same W') p e s m below meth c T' _ B O'.2 X' e' (Fr.snoc X' N ge))
theorem jpLZ (i1 i2 i3 : Nat) {index kk : Nat} {C D n : String} (F : Fld Z h a C n "Z" v) (Ex : Exa Z h a D) (ge : Z.heap.size ≤ a) (dd : DC b pc (.putfield index) 3) (K : ∀ h', Wr h h' a (Jvm.RoadKit.slotOf Z C n "Z") (.int x) → Fld Z h' a C n "Z" (.int x) → own_A l Z a0 y b ml nm rt R A rc rs Q h' cells slots (pc + 3) Ls S) (w1 : tables_1[i1]? = some (Jvm.Cond.fieldLink y index C n "Z") := by rfl) (w2 : tables_1[i2]? = some (Jvm.Cond.laysFinal D C n "Z") := by rfl) (w3 : tables_1[i3]? = some (Jvm.Cond.instantiable D kk) := by rfl) (q2 : narrow .boolean (.int x) = .int x := by rfl) (q3 : fits .boolean (.int x) = true := by rfl) (hq : y = C := by rfl) (hi : nm = "<init>" := by rfl) : own_A l Z a0 y b ml nm rt R A rc rs Q h cells slots pc Ls (.int x :: .ref a :: S) := by
  intro p e s m below meth c T L B E X eT N
  obtain ⟨hw, hx, hy, hml, hown, hnm, hret, hlk, hZ⟩ := id B
  obtain ⟨T', h', X', e', W', st⟩ := putF X hx hZ hown (host := "") (Or.inl (WW hw i1 w1)) Via.refl eT F Ex (Or.inr ⟨WW hw i2 w2, hq, hnm.trans hi⟩) (WW hw i3 w3) (ty := .boolean) (by decide) q2 q3 (g := mkF m pc Ls (.int x :: .ref a :: S)) rfl rfl (hb hy dd)
  have O' := Old.wr ⟨rfl, E⟩ W' ge
  exact own_go st (K h' W' (F.same W') p e s m below meth c T' _ B O'.2 X' e' (Fr.snoc X' N ge))
theorem jpLJ (i1 i2 i3 : Nat) {index kk : Nat} {C D n : String} {u : Int64} (F : Fld Z h a C n "J" v) (Ex : Exa Z h a D) (ge : Z.heap.size ≤ a) (dd : DC b pc (.putfield index) 3) (K : ∀ h', Wr h h' a (Jvm.RoadKit.slotOf Z C n "J") (.long u) → Fld Z h' a C n "J" (.long u) → own_A l Z a0 y b ml nm rt R A rc rs Q h' cells slots (pc + 3) Ls S) (w1 : tables_1[i1]? = some (Jvm.Cond.fieldLink y index C n "J") := by rfl) (w2 : tables_1[i2]? = some (Jvm.Cond.laysFinal D C n "J") := by rfl) (w3 : tables_1[i3]? = some (Jvm.Cond.instantiable D kk) := by rfl)  (hq : y = C := by rfl) (hi : nm = "<init>" := by rfl) : own_A l Z a0 y b ml nm rt R A rc rs Q h cells slots pc Ls (.long u :: .ref a :: S) := by
  intro p e s m below meth c T L B E X eT N
  obtain ⟨hw, hx, hy, hml, hown, hnm, hret, hlk, hZ⟩ := id B
  obtain ⟨T', h', X', e', W', st⟩ := putF X hx hZ hown (host := "") (Or.inl (WW hw i1 w1)) Via.refl eT F Ex (Or.inr ⟨WW hw i2 w2, hq, hnm.trans hi⟩) (WW hw i3 w3) (ty := .long) (by decide) rfl rfl (g := mkF m pc Ls (.long u :: .ref a :: S)) rfl rfl (hb hy dd)
  have O' := Old.wr ⟨rfl, E⟩ W' ge
  exact own_go st (K h' W' (F.same W') p e s m below meth c T' _ B O'.2 X' e' (Fr.snoc X' N ge))
theorem jpLF (i1 i2 i3 : Nat) {index kk : Nat} {C D n : String} {u : UInt32} (F : Fld Z h a C n "F" v) (Ex : Exa Z h a D) (ge : Z.heap.size ≤ a) (dd : DC b pc (.putfield index) 3) (K : ∀ h', Wr h h' a (Jvm.RoadKit.slotOf Z C n "F") (.float u) → Fld Z h' a C n "F" (.float u) → own_A l Z a0 y b ml nm rt R A rc rs Q h' cells slots (pc + 3) Ls S) (w1 : tables_1[i1]? = some (Jvm.Cond.fieldLink y index C n "F") := by rfl) (w2 : tables_1[i2]? = some (Jvm.Cond.laysFinal D C n "F") := by rfl) (w3 : tables_1[i3]? = some (Jvm.Cond.instantiable D kk) := by rfl)  (hq : y = C := by rfl) (hi : nm = "<init>" := by rfl) : own_A l Z a0 y b ml nm rt R A rc rs Q h cells slots pc Ls (.float u :: .ref a :: S) := by
  intro p e s m below meth c T L B E X eT N
  obtain ⟨hw, hx, hy, hml, hown, hnm, hret, hlk, hZ⟩ := id B
  obtain ⟨T', h', X', e', W', st⟩ := putF X hx hZ hown (host := "") (Or.inl (WW hw i1 w1)) Via.refl eT F Ex (Or.inr ⟨WW hw i2 w2, hq, hnm.trans hi⟩) (WW hw i3 w3) (ty := .float) (by decide) rfl rfl (g := mkF m pc Ls (.float u :: .ref a :: S)) rfl rfl (hb hy dd)
  have O' := Old.wr ⟨rfl, E⟩ W' ge
  exact own_go st (K h' W' (F.same W') p e s m below meth c T' _ B O'.2 X' e' (Fr.snoc X' N ge))
theorem jpVI (i1 i2 i3 i4 : Nat) {index kk : Nat} {C O D n : String} (F : Fld Z h a O n "I" v) (Ex : Exa Z h a D) (ge : Z.heap.size ≤ a) (dd : DC b pc (.putfield index) 3) (K : ∀ h', Wr h h' a (Jvm.RoadKit.slotOf Z O n "I") (.int x) → Fld Z h' a O n "I" (.int x) → own_A l Z a0 y b ml nm rt R A rc rs Q h' cells slots (pc + 3) Ls S) (w1 : tables_1[i1]? = some (Jvm.Cond.fieldLink y index C n "I") := by rfl) (w2 : tables_1[i2]? = some (Jvm.Cond.lays D O n "I") := by rfl) (w3 : tables_1[i3]? = some (Jvm.Cond.instantiable D kk) := by rfl) (w4 : tables_1[i4]? = some (Jvm.Cond.sameField C O n "I") := by rfl)  : own_A l Z a0 y b ml nm rt R A rc rs Q h cells slots pc Ls (.int x :: .ref a :: S) := by
  intro p e s m below meth c T L B E X eT N
  obtain ⟨hw, hx, hy, hml, hown, hnm, hret, hlk, hZ⟩ := id B
  obtain ⟨T', h', X', e', W', st⟩ := putF X hx hZ hown (host := "") (Or.inl (WW hw i1 w1)) (Via.of (WW hw i4 w4)) eT F Ex (Or.inl (WW hw i2 w2)) (WW hw i3 w3) (ty := .int) (by decide) rfl rfl (g := mkF m pc Ls (.int x :: .ref a :: S)) rfl rfl (hb hy dd)
  have O' := Old.wr ⟨rfl, E⟩ W' ge
  exact own_go st (K h' W' (F.same W') p e s m below meth c T' _ B O'.2 X' e' (Fr.snoc X' N ge))
theorem jpRZ (i1 i2 i3 : Nat) {index kk : Nat} {C D n : String} (F : Fld Z h a C n "Z" v) (Ex : Exa Z h a D) (ge : Z.heap.size ≤ a) (dd : DC b pc (.putfield index) 3) (K : ∀ h', Wr h h' a (Jvm.RoadKit.slotOf Z C n "Z") (.int x) → Fld Z h' a C n "Z" (.int x) → own_A l Z a0 y b ml nm rt R A rc rs Q h' cells slots (pc + 3) Ls S) (w1 : tables_1[i1]? = some (Jvm.Cond.fieldRef y index C n "Z") := by rfl) (w2 : tables_1[i2]? = some (Jvm.Cond.lays D C n "Z") := by rfl) (w3 : tables_1[i3]? = some (Jvm.Cond.instantiable D kk) := by rfl) (q2 : narrow .boolean (.int x) = .int x := by rfl) (q3 : fits .boolean (.int x) = true := by rfl) : own_A l Z a0 y b ml nm rt R A rc rs Q h cells slots pc Ls (.int x :: .ref a :: S) := by
  intro p e s m below meth c T L B E X eT N
  obtain ⟨hw, hx, hy, hml, hown, hnm, hret, hlk, hZ⟩ := id B
  obtain ⟨T', h', X', e', W', st⟩ := own_putR X hx hZ hown (WW hw i1 w1) eT F Ex (WW hw i2 w2) (WW hw i3 w3) (ty := .boolean) (by decide) q2 q3 (g := mkF m pc Ls (.int x :: .ref a :: S)) rfl rfl (hb hy dd)
  have O' := Old.wr ⟨rfl, E⟩ W' ge
  exact own_go st (K h' W' (F.same W') p e s m below meth c T' _ B O'.2 X' e' (Fr.snoc X' N ge))
theorem jnew (i1 i2 i3 : Nat) {index n : Nat} {C : String} (dd : DC b pc (.new index) 3) (K : ∀ (a : Addr) (h' : Heap), h.size ≤ a → Z.heap.size ≤ a → Ext h h' → Exa Z h' a C → own_D Z a0 C h' a → own_A l Z a0 y b ml nm rt R A rc rs Q h' (cells + 1) (slots + n) (pc + 3) Ls (.ref a :: S)) (w1 : tables_1[i1]? = some (Jvm.Cond.classLink y index C) := by rfl) (w2 : tables_1[i2]? = some (Jvm.Cond.instantiable C n) := by rfl) (w3 : tables_1[i3]? = some (Jvm.Cond.initialized C) := by rfl) (hc : cells + 1 ≤ R.cells := by decide) (hs : slots + n ≤ R.slots := by decide) : own_A l Z a0 y b ml nm rt R A rc rs Q h cells slots pc Ls S := by
  intro p e s m below meth c T L B E X eT N
  obtain ⟨hw, hx, hy, hml, hown, hnm, hret, hlk, hZ⟩ := id B
  obtain ⟨T', h', X', e', E', A', D', -, st⟩ := newO X hx hZ hown (WW hw i1 w1) (WW hw i2 w2) (WW hw i3 w3) eT (g := mkF m pc Ls S) rfl (hb hy dd) hc hs
  exact own_go st (K h.size h' (Nat.le_refl _) E.1 E' A' (fun _ _ _ _ q r => D' q r) p e s m below meth c T' L B (Old.ext ⟨rfl, E⟩ E').2 X' e' N)
theorem jnewA (i1 i2 cap : Nat) (vs : List Value) (ad : String) {index : Nat} {C : String} (dd : DC b pc (.anewarray index) 3) (hv : List.replicate cap (.null : Value) = vs) (K : ∀ (a : Addr) (h' : Heap) (k : ClassId), h.size ≤ a → Z.heap.size ≤ a → Ext h h' → Arv Z h' a k (.object C) x vs .null → Exa Z h' a ad → Ovr Z k C → own_A l Z a0 y b ml nm rt R A rc rs Q h' (cells + 1) (slots + cap) (pc + 3) Ls (.ref a :: S)) (w1 : tables_1[i1]? = some (Jvm.Cond.classLink y index C) := by rfl) (w2 : tables_1[i2]? = some (Jvm.Cond.arrayOver (.object C)) := by rfl) (ha : "[" ++ (FieldType.object C).toString = ad := by decide) (hx0 : ¬ x < 0 := by decide) (hcap : x.toNatClampNeg ≤ cap := by decide) (hb8 : cap * 8 ≤ 536870912 := by decide) (hc : cells + 1 ≤ R.cells := by decide) (hs : slots + cap ≤ R.slots := by decide) : own_A l Z a0 y b ml nm rt R A rc rs Q h cells slots pc Ls (.int x :: S) := by
  intro p e s m below meth c T L B E X eT N
  obtain ⟨hw, hx, hy, hml, hown, hnm, hret, hlk, hZ⟩ := id B
  obtain ⟨T', h', k, X', e', E', A', EA, Ov, st⟩ := newRE X hx hZ hown (WW hw i1 w1) (WW hw i2 w2) eT (g := mkF m pc Ls (.int x :: S)) rfl (hb hy dd) rfl hx0 (cap := cap) hcap hb8 hc hs ha
  subst hv
  exact own_go st (K h.size h' k (Nat.le_refl _) E.1 E' ((Arv.new A' hx0).pad (pad_rep [] .null cap)) EA Ov p e s m below meth c T' L B (Old.ext ⟨rfl, E⟩ E').2 X' e' N)
theorem jal {k : ClassId} {ty : FieldType} {z : Int32} {vs : List Value} {dv : Value} (V : Arv Z h a k ty z vs dv) (dd : DC b pc .arraylength 1) (K : own_A l Z a0 y b ml nm rt R A rc rs Q h cells slots (pc + 1) Ls (.int z :: S))  : own_A l Z a0 y b ml nm rt R A rc rs Q h cells slots pc Ls (.ref a :: S) := by
  intro p e s m below meth c T L B E X eT N
  obtain ⟨hw, hx, hy, hml, hown, hnm, hret, hlk, hZ⟩ := id B
  obtain ⟨cl, Ar, q1, Sz, Nn, Hs, Gg⟩ := id V
  refine own_go (fun t r => X.arraylength hx (by rw [eT]; exact Ar.1) (State.isArrayOf_alike hZ.alike Ar.2.1) (g := mkF m pc Ls (.ref a :: S)) rfl rfl (hb hy dd) t ?_) (K p e s m below meth c T L B E X eT N)
  rw [len_of Sz Nn]; exact r
theorem jaa {k : ClassId} {ty : FieldType} {z : Int32} {vs : List Value} {dv : Value} (V : Arv Z h a k ty z vs dv) (q0 : ¬ x < 0 ∧ x < z) (v : Value) (hv : vs.getD x.toNatClampNeg dv = v) (dd : DC b pc .aaload 1) (K : own_A l Z a0 y b ml nm rt R A rc rs Q h cells slots (pc + 1) Ls (v :: S)) (hr : ty.isReference = true := by rfl) : own_A l Z a0 y b ml nm rt R A rc rs Q h cells slots pc Ls (.int x :: .ref a :: S) := by
  intro p e s m below meth c T L B E X eT N
  obtain ⟨hw, hx, hy, hml, hown, hnm, hret, hlk, hZ⟩ := id B
  obtain ⟨cl, Ar, q1, Sz, Nn, Hs, Gg⟩ := id V
  have i := inb_of Sz q0
  exact own_go (fun t r => X.aaload hx (j := x) (v := v) (by rw [eT]; exact Ar.1) (State.isArrayOf_alike hZ.alike Ar.2.1) hr Ar.2.2 i (Hs.at i hv) (g := mkF m pc Ls (.int x :: .ref a :: S)) rfl rfl (hb hy dd) t r) (K p e s m below meth c T L B E X eT N)
theorem jbx {C d : String} {z : Int32} {val : Int32 → Value} (V : ∃ c, Bxs Z a c C d z val) (q0 : ¬ x < 0 ∧ x < z) (dd : DC b pc .aaload 1) (K : ∀ a', Exa Z h a' C → own_A l Z a0 y b ml nm rt R A rc rs Q h cells slots (pc + 1) Ls (.ref a' :: S))  : own_A l Z a0 y b ml nm rt R A rc rs Q h cells slots pc Ls (.int x :: .ref a :: S) := by
  intro p e s m below meth c T L B E X eT N
  obtain ⟨hw, hx, hy, hml, hown, hnm, hret, hlk, hZ⟩ := id B
  obtain ⟨cl, Bx⟩ := id V
  have i := inb_of Bx.2.1 q0
  obtain ⟨a', at', ex, -⟩ := Bx.2.2.2 _ i
  exact own_go (fun t r => X.aaload hx (j := x) (v := .ref a') (by rw [eT]; exact (Bx.1.ext E).1) (State.isArrayOf_alike hZ.alike Bx.1.2.1) rfl Bx.1.2.2 i at' (g := mkF m pc Ls (.int x :: .ref a :: S)) rfl rfl (hb hy dd) t r) (K a' (ex.ext E) p e s m below meth c T L B E X eT N)
theorem jsN {k : ClassId} {ty : FieldType} {z : Int32} {vs : List Value} {dv : Value} (V : Arv Z h a k ty z vs dv) (q0 : ¬ x < 0 ∧ x < z) (ge : Z.heap.size ≤ a) (i : Nat) (vs' : List Value) (dd : DC b pc .aastore 1) (hi : x.toNatClampNeg = i) (hv : vs.set i (.null) = vs') (K : ∀ h', Wr h h' a x.toNatClampNeg (.null) → Arv Z h' a k ty z vs' dv → own_A l Z a0 y b ml nm rt R A rc rs Q h' cells slots (pc + 1) Ls S) (hr : ty.isReference = true := by rfl) (hft : fits ty (.null) = true := by rfl) (hl : i < vs.length := by exact Nat.le_of_ble_eq_true rfl) : own_A l Z a0 y b ml nm rt R A rc rs Q h cells slots pc Ls (.null :: .int x :: .ref a :: S) := by
  intro p e s m below meth c T L B E X eT N
  obtain ⟨hw, hx, hy, hml, hown, hnm, hret, hlk, hZ⟩ := id B
  obtain ⟨cl, Ar, q1, Sz, Nn, Hs, Gg⟩ := id V
  obtain ⟨T', h', X', e', W', st⟩ := stR X hx hZ eT Ar (j := x) (inb_of Sz q0) hr (Or.inl rfl) (g := mkF m pc Ls (.null :: .int x :: .ref a :: S)) rfl rfl (hb hy dd)
  have O' := Old.wr ⟨rfl, E⟩ W' ge
  subst hv
  exact own_go st (K h' W' (Arv.set Ar q1 Sz Nn Hs Gg hft W' i hi hl) p e s m below meth c T' _ B O'.2 X' e' (Fr.snoc X' N ge))
theorem jsR {k : ClassId} {ty : FieldType} {z : Int32} {vs : List Value} {dv : Value} (V : Arv Z h a k ty z vs dv) {D : String} (O : Ovr Z k D) (I : Ins Z h a' D true) (q0 : ¬ x < 0 ∧ x < z) (ge : Z.heap.size ≤ a) (i : Nat) (vs' : List Value) (dd : DC b pc .aastore 1) (hi : x.toNatClampNeg = i) (hv : vs.set i (.ref a') = vs') (K : ∀ h', Wr h h' a x.toNatClampNeg (.ref a') → Arv Z h' a k ty z vs' dv → own_A l Z a0 y b ml nm rt R A rc rs Q h' cells slots (pc + 1) Ls S) (hr : ty.isReference = true := by rfl) (hft : fits ty (.ref a') = true := by rfl) (hl : i < vs.length := by exact Nat.le_of_ble_eq_true rfl) : own_A l Z a0 y b ml nm rt R A rc rs Q h cells slots pc Ls (.ref a' :: .int x :: .ref a :: S) := by
  intro p e s m below meth c T L B E X eT N
  obtain ⟨hw, hx, hy, hml, hown, hnm, hret, hlk, hZ⟩ := id B
  obtain ⟨cl, Ar, q1, Sz, Nn, Hs, Gg⟩ := id V
  obtain ⟨T', h', X', e', W', st⟩ := stR X hx hZ eT Ar (j := x) (inb_of Sz q0) hr (Sto.ofV Ar q1 O I) (g := mkF m pc Ls (.ref a' :: .int x :: .ref a :: S)) rfl rfl (hb hy dd)
  have O' := Old.wr ⟨rfl, E⟩ W' ge
  subst hv
  exact own_go st (K h' W' (Arv.set Ar q1 Sz Nn Hs Gg hft W' i hi hl) p e s m below meth c T' _ B O'.2 X' e' (Fr.snoc X' N ge))
theorem jcY (i1 : Nat) {index : Nat} {D : String} (I : Ins Z h a D true) (dd : DC b pc (.checkcast index) 3) (K : own_A l Z a0 y b ml nm rt R A rc rs Q h cells slots (pc + 3) Ls (.ref a :: S)) (w1 : tables_1[i1]? = some (Jvm.Cond.classLink y index D) := by rfl) : own_A l Z a0 y b ml nm rt R A rc rs Q h cells slots pc Ls (.ref a :: S) := by
  intro p e s m below meth c T L B E X eT N
  obtain ⟨hw, hx, hy, hml, hown, hnm, hret, hlk, hZ⟩ := id B
  obtain ⟨T', X', e', st⟩ := castY X hx hZ hown (WW hw i1 w1) eT I (g := mkF m pc Ls (.ref a :: S)) rfl rfl (hb hy dd)
  exact own_go st (K p e s m below meth c T' L B E X' e' N)
theorem jiN (i1 : Nat) {index : Nat} {C D : String} (Ex : Exa Z h a C) (I : ∃ c t, Z.vm.findClass C = some c ∧ Z.vm.findClass D = some t ∧ Z.vm.assignable c t = false) (dd : DC b pc (.instanceof index) 3) (K : own_A l Z a0 y b ml nm rt R A rc rs Q h cells slots (pc + 3) Ls (.int 0 :: S)) (w1 : tables_1[i1]? = some (Jvm.Cond.classLink y index D) := by rfl) : own_A l Z a0 y b ml nm rt R A rc rs Q h cells slots pc Ls (.ref a :: S) := by
  intro p e s m below meth c T L B E X eT N
  obtain ⟨hw, hx, hy, hml, hown, hnm, hret, hlk, hZ⟩ := id B
  obtain ⟨T', X', e', st⟩ := instNo X hx hZ hown (WW hw i1 w1) eT Ex I (g := mkF m pc Ls (.ref a :: S)) rfl rfl (hb hy dd)
  exact own_go st (K p e s m below meth c T' L B E X' e' N)
theorem jld (i1 : Nat) {index : Nat} {D : String} (M : own_Mir Z D a) (dd : DC b pc (.ldc index) 2) (K : own_A l Z a0 y b ml nm rt R A rc rs Q h cells slots (pc + 2) Ls (.ref a :: S)) (w1 : tables_1[i1]? = some (Jvm.Cond.classLink y index D) := by rfl) : own_A l Z a0 y b ml nm rt R A rc rs Q h cells slots pc Ls S := by
  intro p e s m below meth c T L B E X eT N
  obtain ⟨hw, hx, hy, hml, hown, hnm, hret, hlk, hZ⟩ := id B
  obtain ⟨T', X', e', st⟩ := own_ldcM X hx hZ hown (WW hw i1 w1) eT M (g := mkF m pc Ls S) rfl (hb hy dd)
  exact own_go st (K p e s m below meth c T' L B E X' e' N)
theorem jlF (i1 : Nat) {index : Nat} {u : UInt32} (dd : DC b pc (.ldc index) 2) (K : own_A l Z a0 y b ml nm rt R A rc rs Q h cells slots (pc + 2) Ls (.float u :: S)) (w1 : tables_1[i1]? = some (Jvm.Cond.constantFloat y index u) := by rfl) : own_A l Z a0 y b ml nm rt R A rc rs Q h cells slots pc Ls S := by
  intro p e s m below meth c T L B E X eT N
  obtain ⟨hw, hx, hy, hml, hown, hnm, hret, hlk, hZ⟩ := id B
  exact own_go (fun t r => X.ldcFloatC hx hown (mvT hZ (WW hw i1 w1)) (g := mkF m pc Ls S) rfl (hb hy dd) t r) (K p e s m below meth c T L B E X eT N)
theorem jl2 (i1 : Nat) (u : Int64) {index : Nat} (dd : DC b pc (.ldc2_w index) 3) (K : own_A l Z a0 y b ml nm rt R A rc rs Q h cells slots (pc + 3) Ls (.long u :: S)) (w1 : tables_1[i1]? = some (Jvm.Cond.constantLong y index u) := by rfl) : own_A l Z a0 y b ml nm rt R A rc rs Q h cells slots pc Ls S := by
  intro p e s m below meth c T L B E X eT N
  obtain ⟨hw, hx, hy, hml, hown, hnm, hret, hlk, hZ⟩ := id B
  exact own_go (fun t r => X.ldc2Long hx hown (mvT hZ (WW hw i1 w1)) (g := mkF m pc Ls S) rfl (hb hy dd) t r) (K p e s m below meth c T L B E X eT N)
theorem jac (pc' : Nat) {cd : ACond} {o : Int} {same : Bool} (dd : DC b pc (.if_acmp cd o) 3) (q : decide (v = v') = same) (K : own_A l Z a0 y b ml nm rt R A rc rs Q h cells slots pc' Ls S) (r1 : v.isRef = true := by rfl) (r2 : v'.isRef = true := by rfl) (h1 : 0 ≤ (pc : Int) + o := by decide) (h2 : pc' = if Jvm.RoadKit.acV cd same = true then ((pc : Int) + o).toNat else pc + 3 := by decide) : own_A l Z a0 y b ml nm rt R A rc rs Q h cells slots pc Ls (v' :: v :: S) := by
  intro p e s m below meth c T L B E X eT N
  obtain ⟨hw, hx, hy, hml, hown, hnm, hret, hlk, hZ⟩ := id B
  exact own_go (fun t r => Jvm.RoadKit.acmp (g := mkF m pc Ls (v' :: v :: S)) X hx rfl r1 r2 rfl (hb hy dd) rfl q h1 h2 r) (K p e s m below meth c T L B E X eT N)
theorem jiO (W i1 i2 i3 : Nat) {index : Nat} (dd : DC b pc (.invokespecial index) 3) (K : own_A l Z a0 y b ml nm rt R A rc rs Q h cells slots (pc + 3) Ls S) (w1 : tables_1[i1]? = some (Jvm.Cond.methodLink y index Lib.objectInit) := by rfl) (w2 : tables_1[i2]? = some (Jvm.Cond.instanceMethod Lib.objectInit) := by rfl) (w3 : tables_1[i3]? = some (Jvm.Cond.code Lib.objectInit object_method_1_code 1 none) := by rfl) (hW : (S.map fun v => v.category).sum = W := by rfl) (hz : Ls.size = ml := by rfl) (hf : 1 ≤ R.frames := by decide) (hl : W + 12 ≤ R.locals := by decide) : own_A l Z a0 y b ml nm rt R A rc rs Q h cells slots pc Ls (.ref a :: S) := by
  intro p e s m below meth c T L B E X eT N
  obtain ⟨hw, hx, hy, hml, hown, hnm, hret, hlk, hZ⟩ := id B
  obtain ⟨T', X', e', st⟩ := initO X hx hZ hown (WW hw i1 w1) (WW hw i2 w2) (WW hw i3 w3) eT (g := mkF m pc Ls (.ref a :: S)) rfl (hz.trans hml.symm) rfl (hb hy dd) hf (W := W) (by show 2 * 0 + _ ≤ _; rw [hW]; exact Nat.le_of_eq (Nat.zero_add W)) hl
  exact own_go st (K p e s m below meth c T' L B E X' e' N)
theorem jgC (W i1 i2 i3 i4 i5 : Nat) {index : Nat} {C : String} (Ex : Exa Z h a C) (M : own_Mir Z C a') (nf : own_nf Z a0 Jvm.Stand.gcN) (dd : DC b pc (.invokevirtual index) 3) (K : own_A l Z a0 y b ml nm rt R A rc rs Q h cells slots (pc + 3) Ls (.ref a' :: S)) (w1 : tables_1[i1]? = some (Jvm.Cond.methodLink y index Jvm.Stand.gcN) := by rfl) (w2 : tables_1[i2]? = some (Jvm.Cond.declares Jvm.Stand.gcN) := by rfl) (w3 : tables_1[i3]? = some (Jvm.Cond.selects C Jvm.Stand.gcN Jvm.Stand.gcN) := by rfl) (w4 : tables_1[i4]? = some (Jvm.Cond.instanceMethod Jvm.Stand.gcN) := by rfl) (w5 : tables_1[i5]? = some (Jvm.Cond.native Jvm.Stand.gcN) := by rfl) (hW : (S.map fun v => v.category).sum = W := by rfl) (hz : Ls.size = ml := by rfl) (hf : 1 ≤ R.frames := by decide) (hl : W + 14 ≤ R.locals := by decide) : own_A l Z a0 y b ml nm rt R A rc rs Q h cells slots pc Ls (.ref a :: S) := by
  intro p e s m below meth c T L B E X eT N
  obtain ⟨hw, hx, hy, hml, hown, hnm, hret, hlk, hZ⟩ := id B
  obtain ⟨T', X', e', st⟩ := own_getC X hx hZ hown (WW hw i1 w1) (WW hw i2 w2) (nf s hZ) (WW hw i3 w3) (WW hw i4 w4) (WW hw i5 w5) eT Ex M (g := mkF m pc Ls (.ref a :: S)) rfl (hz.trans hml.symm) rfl (hb hy dd) hf (W := W) (by show 2 * 0 + _ ≤ _; rw [hW]; exact Nat.le_of_eq (Nat.zero_add W)) hl
  exact own_go st (K p e s m below meth c T' L B E X' e' N)
theorem jcS (W i1 i2 i3 i4 : Nat) {index f' c' s' o' ml' : Nat} {z : MethodName} {b' : ByteArray} {rt' : Option FieldType} {as' : List Value} {Q' : Option Value → Heap → Prop} {ps : List FieldType} {r' : Option FieldType} (rm : own_M l Z h z b' ml' rt' f' c' s' o' (as'.toArray) Q') {D : String} (pd : parseMethodDescriptor D = some ⟨ps, r'⟩) (dd : DC b pc (.invokestatic index) 3) (hst : S' = as'.reverse ++ S) (K : ∀ v h', Q' v h' → own_A l Z a0 y b ml nm rt R A rc rs Q h' (cells + c') (slots + s') (pc + 3) Ls (own_pu v S)) (w1 : tables_1[i1]? = some (Jvm.Cond.methodLink y index z) := by rfl) (w2 : tables_1[i2]? = some (Jvm.Cond.static z) := by rfl) (w3 : tables_1[i3]? = some (Jvm.Cond.initialized z.cls) := by rfl) (w4 : tables_1[i4]? = some (Jvm.Cond.code z b' ml' rt') := by rfl) (hD : z.desc = D := by rfl) (hy' : own_np z := by decide) (hW : (S.map fun v => v.category).sum = W := by rfl) (hz : Ls.size = ml := by rfl) (hn : as'.length = ps.length := by rfl) (hf : f' + 1 ≤ R.frames := by decide) (hl : W + (ml' + 11) + o' ≤ R.locals := by decide) (hc : cells + c' ≤ R.cells := by decide) (hs : slots + s' ≤ R.slots := by decide) : own_A l Z a0 y b ml nm rt R A rc rs Q h cells slots pc Ls S' := by
  intro p e s m below meth c T L B E X eT N
  obtain ⟨hw, hx, hy, hml, hown, hnm, hret, hlk, hZ⟩ := id B
  obtain ⟨v, T', L', X', hQ, st⟩ := own_cS (Q := fun v h _L => Q' v h ∧ Ext Z.heap h ∧ Fr Z.heap.size _L) (W := W) X hx hZ hown (WW hw i1 w1) (WW hw i2 w2) (WW hw i3 w3) (WW hw i4 w4) (rm E []) eT hml (g := mkF m pc Ls S') (by rw [hD]; exact pd) (hb hy dd) as' S hst rfl rfl hz hn hy' (by show 2 * 0 + _ ≤ _; rw [hW]; exact Nat.le_of_eq (Nat.zero_add W)) hf hl hc hs
  cases v with
  | none => exact own_go st (K none T'.heap hQ.1 p e s m below meth c T' (L ++ L') B hQ.2.1 X' rfl (N.app hQ.2.2))
  | some u => exact own_go st (K (some u) T'.heap hQ.1 p e s m below meth c T' (L ++ L') B hQ.2.1 X' rfl (N.app hQ.2.2))
theorem jcI (W i1 i2 i3 i4 : Nat) {index f' c' s' o' ml' : Nat} {z : MethodName} {b' : ByteArray}  {as' : List Value} {Q' : Option Value → Heap → Prop} {ps : List FieldType} {r' : Option FieldType} (rm : own_M l Z h z b' ml' none f' c' s' o' ((.ref a :: as').toArray) Q') {D : String} (pd : parseMethodDescriptor D = some ⟨ps, r'⟩) (dd : DC b pc (.invokespecial index) 3) (hst : S' = as'.reverse ++ .ref a :: S) (K : ∀ v h', Q' v h' → own_A l Z a0 y b ml nm rt R A rc rs Q h' (cells + c') (slots + s') (pc + 3) Ls (own_pu v S)) (w1 : tables_1[i1]? = some (Jvm.Cond.methodLink y index z) := by rfl) (w2 : tables_1[i2]? = some (Jvm.Cond.instanceMethod z) := by rfl) (w3 : tables_1[i3]? = some (Jvm.Cond.initialized z.cls) := by rfl) (w4 : tables_1[i4]? = some (Jvm.Cond.code z b' ml' none) := by rfl) (hD : z.desc = D := by rfl) (hi : z.name = "<init>" := by rfl) (hy' : own_np z := by decide) (hW : (S.map fun v => v.category).sum = W := by rfl) (hz : Ls.size = ml := by rfl) (hn : as'.length = ps.length := by rfl) (hf : f' + 1 ≤ R.frames := by decide) (hl : W + (ml' + 11) + o' ≤ R.locals := by decide) (hc : cells + c' ≤ R.cells := by decide) (hs : slots + s' ≤ R.slots := by decide) : own_A l Z a0 y b ml nm rt R A rc rs Q h cells slots pc Ls S' := by
  intro p e s m below meth c T L B E X eT N
  obtain ⟨hw, hx, hy, hml, hown, hnm, hret, hlk, hZ⟩ := id B
  obtain ⟨v, T', L', X', hQ, st⟩ := own_cI (Q := fun v h _L => Q' v h ∧ Ext Z.heap h ∧ Fr Z.heap.size _L) (W := W) X hx hZ hown (WW hw i1 w1) (WW hw i2 w2) (WW hw i3 w3) (WW hw i4 w4) (rm E []) eT hml (g := mkF m pc Ls S') (by rw [hD]; exact pd) (hb hy dd) a as' S hst rfl rfl hz hn hi hy' (by show 2 * 0 + _ ≤ _; rw [hW]; exact Nat.le_of_eq (Nat.zero_add W)) hf hl hc hs
  cases v with
  | none => exact own_go st (K none T'.heap hQ.1 p e s m below meth c T' (L ++ L') B hQ.2.1 X' rfl (N.app hQ.2.2))
  | some u => exact own_go st (K (some u) T'.heap hQ.1 p e s m below meth c T' (L ++ L') B hQ.2.1 X' rfl (N.app hQ.2.2))
theorem jcR (W i1 i2 i3 i4 : Nat) {index f' c' s' o' ml' : Nat} {z : MethodName} {b' : ByteArray}  {as' : List Value} {Q' : Option Value → Heap → Prop} {ps : List FieldType} {r' : Option FieldType} (rm : own_M l Z h z b' ml' none f' c' s' o' ((.ref a :: as').toArray) Q') {D : String} (pd : parseMethodDescriptor D = some ⟨ps, r'⟩) (dd : DC b pc (.invokespecial index) 3) (hst : S' = as'.reverse ++ .ref a :: S) (K : ∀ v h', Q' v h' → own_A l Z a0 y b ml nm rt R A rc rs Q h' (cells + c') (slots + s') (pc + 3) Ls (own_pu v S)) (w1 : tables_1[i1]? = some (Jvm.Cond.methodRef y index z) := by rfl) (w2 : tables_1[i2]? = some (Jvm.Cond.instanceMethod z) := by rfl) (w3 : tables_1[i3]? = some (Jvm.Cond.initialized z.cls) := by rfl) (w4 : tables_1[i4]? = some (Jvm.Cond.code z b' ml' none) := by rfl) (hD : z.desc = D := by rfl) (hi : z.name = "<init>" := by rfl) (hy' : own_np z := by decide) (hW : (S.map fun v => v.category).sum = W := by rfl) (hz : Ls.size = ml := by rfl) (hn : as'.length = ps.length := by rfl) (hf : f' + 1 ≤ R.frames := by decide) (hl : W + (ml' + 11) + o' ≤ R.locals := by decide) (hc : cells + c' ≤ R.cells := by decide) (hs : slots + s' ≤ R.slots := by decide) : own_A l Z a0 y b ml nm rt R A rc rs Q h cells slots pc Ls S' := by
  intro p e s m below meth c T L B E X eT N
  obtain ⟨hw, hx, hy, hml, hown, hnm, hret, hlk, hZ⟩ := id B
  obtain ⟨v, T', L', X', hQ, st⟩ := own_cR (Q := fun v h _L => Q' v h ∧ Ext Z.heap h ∧ Fr Z.heap.size _L) (W := W) X hx hZ hown (WW hw i1 w1) (WW hw i2 w2) (WW hw i3 w3) (WW hw i4 w4) (rm E []) eT hml (g := mkF m pc Ls S') (by rw [hD]; exact pd) (hb hy dd) a as' S hst rfl rfl hz hn hi hy' (by show 2 * 0 + _ ≤ _; rw [hW]; exact Nat.le_of_eq (Nat.zero_add W)) hf hl hc hs
  cases v with
  | none => exact own_go st (K none T'.heap hQ.1 p e s m below meth c T' (L ++ L') B hQ.2.1 X' rfl (N.app hQ.2.2))
  | some u => exact own_go st (K (some u) T'.heap hQ.1 p e s m below meth c T' (L ++ L') B hQ.2.1 X' rfl (N.app hQ.2.2))
theorem jcP (W i1 i2 i3 i4 i5 i6 : Nat) {index f' c' s' o' ml' : Nat} {C : String} {z : MethodName} {b' : ByteArray} {rt' : Option FieldType} {as' : List Value} {Q' : Option Value → Heap → Prop} {ps : List FieldType} {r' : Option FieldType} {nn : Nat} (rm : own_M l Z h z b' ml' rt' f' c' s' o' ((.ref a :: as').toArray) Q') (Ex : Exa Z h a C) {D : String} (pd : parseMethodDescriptor D = some ⟨ps, r'⟩) (dd : DC b pc (.invokevirtual index) 3) (hst : S' = as'.reverse ++ .ref a :: S) (K : ∀ v h', Q' v h' → own_A l Z a0 y b ml nm rt R A rc rs Q h' (cells + c') (slots + s') (pc + 3) Ls (own_pu v S)) (w1 : tables_1[i1]? = some (Jvm.Cond.methodLink y index z) := by rfl) (w2 : tables_1[i2]? = some (Jvm.Cond.instantiable z.cls nn) := by rfl) (w3 : tables_1[i3]? = some (Jvm.Cond.privateMethod z) := by rfl) (w4 : tables_1[i4]? = some (Jvm.Cond.instanceMethod z) := by rfl) (w5 : tables_1[i5]? = some (Jvm.Cond.initialized z.cls) := by rfl) (w6 : tables_1[i6]? = some (Jvm.Cond.code z b' ml' rt') := by rfl) (hD : z.desc = D := by rfl) (hy' : own_np z := by decide) (hW : (S.map fun v => v.category).sum = W := by rfl) (hz : Ls.size = ml := by rfl) (hn : as'.length = ps.length := by rfl) (hf : f' + 1 ≤ R.frames := by decide) (hl : W + (ml' + 11) + o' ≤ R.locals := by decide) (hc : cells + c' ≤ R.cells := by decide) (hs : slots + s' ≤ R.slots := by decide) : own_A l Z a0 y b ml nm rt R A rc rs Q h cells slots pc Ls S' := by
  intro p e s m below meth c T L B E X eT N
  obtain ⟨hw, hx, hy, hml, hown, hnm, hret, hlk, hZ⟩ := id B
  obtain ⟨v, T', L', X', hQ, st⟩ := own_cP (Q := fun v h _L => Q' v h ∧ Ext Z.heap h ∧ Fr Z.heap.size _L) (W := W) X hx hZ hown (WW hw i1 w1) (WW hw i2 w2) (WW hw i3 w3) (WW hw i4 w4) (WW hw i5 w5) (WW hw i6 w6) (rm E []) eT Ex hml (g := mkF m pc Ls S') (by rw [hD]; exact pd) (hb hy dd) as' S hst rfl rfl hz hn hy' (by show 2 * 0 + _ ≤ _; rw [hW]; exact Nat.le_of_eq (Nat.zero_add W)) hf hl hc hs
  cases v with
  | none => exact own_go st (K none T'.heap hQ.1 p e s m below meth c T' (L ++ L') B hQ.2.1 X' rfl (N.app hQ.2.2))
  | some u => exact own_go st (K (some u) T'.heap hQ.1 p e s m below meth c T' (L ++ L') B hQ.2.1 X' rfl (N.app hQ.2.2))
theorem jcV (W i1 i2 i3 i4 i5 i6 : Nat) {index f' c' s' o' ml' : Nat} {C : String} {z zz : MethodName} {b' : ByteArray} {rt' : Option FieldType} {as' : List Value} {Q' : Option Value → Heap → Prop} {ps : List FieldType} {r' : Option FieldType} (nf : own_nf Z a0 zz) (rm : own_M l Z h z b' ml' rt' f' c' s' o' ((.ref a :: as').toArray) Q') (Ex : Exa Z h a C) {D : String} (pd : parseMethodDescriptor D = some ⟨ps, r'⟩) (dd : DC b pc (.invokevirtual index) 3) (hst : S' = as'.reverse ++ .ref a :: S) (K : ∀ v h', Q' v h' → own_A l Z a0 y b ml nm rt R A rc rs Q h' (cells + c') (slots + s') (pc + 3) Ls (own_pu v S)) (w1 : tables_1[i1]? = some (Jvm.Cond.methodLink y index zz) := by rfl) (w2 : tables_1[i2]? = some (Jvm.Cond.declares zz) := by rfl) (w3 : tables_1[i3]? = some (Jvm.Cond.selects C zz z) := by rfl) (w4 : tables_1[i4]? = some (Jvm.Cond.instanceMethod z) := by rfl) (w5 : tables_1[i5]? = some (Jvm.Cond.initialized z.cls) := by rfl) (w6 : tables_1[i6]? = some (Jvm.Cond.code z b' ml' rt') := by rfl) (hD : zz.desc = D := by rfl) (hy' : own_np zz := by decide) (hW : (S.map fun v => v.category).sum = W := by rfl) (hz : Ls.size = ml := by rfl) (hn : as'.length = ps.length := by rfl) (hf : f' + 1 ≤ R.frames := by decide) (hl : W + (ml' + 11) + o' ≤ R.locals := by decide) (hc : cells + c' ≤ R.cells := by decide) (hs : slots + s' ≤ R.slots := by decide) : own_A l Z a0 y b ml nm rt R A rc rs Q h cells slots pc Ls S' := by
  intro p e s m below meth c T L B E X eT N
  obtain ⟨hw, hx, hy, hml, hown, hnm, hret, hlk, hZ⟩ := id B
  obtain ⟨v, T', L', X', hQ, st⟩ := own_cV (Q := fun v h _L => Q' v h ∧ Ext Z.heap h ∧ Fr Z.heap.size _L) (W := W) X hx hZ hown (WW hw i1 w1) (WW hw i2 w2) (nf s hZ) (WW hw i3 w3) (WW hw i4 w4) (WW hw i5 w5) (WW hw i6 w6) (rm E []) eT Ex hml (g := mkF m pc Ls S') (by rw [hD]; exact pd) (hb hy dd) as' S hst rfl rfl hz hn hy' (by show 2 * 0 + _ ≤ _; rw [hW]; exact Nat.le_of_eq (Nat.zero_add W)) hf hl hc hs
  cases v with
  | none => exact own_go st (K none T'.heap hQ.1 p e s m below meth c T' (L ++ L') B hQ.2.1 X' rfl (N.app hQ.2.2))
  | some u => exact own_go st (K (some u) T'.heap hQ.1 p e s m below meth c T' (L ++ L') B hQ.2.1 X' rfl (N.app hQ.2.2))
theorem jcU (W i1 i2 i3 i4 i5 i6 i7 : Nat) {index f' c' s' o' ml' : Nat} {C C' : String} {z zz : MethodName} {b' : ByteArray} {rt' : Option FieldType} {as' : List Value} {Q' : Option Value → Heap → Prop} {ps : List FieldType} {r' : Option FieldType} (rm : own_M l Z h z b' ml' rt' f' c' s' o' ((.ref a :: as').toArray) Q') (Ex : Exa Z h a C) {D : String} (pd : parseMethodDescriptor D = some ⟨ps, r'⟩) (dd : DC b pc (.invokevirtual index) 3) (hst : S' = as'.reverse ++ .ref a :: S) (K : ∀ v h', Q' v h' → own_A l Z a0 y b ml nm rt R A rc rs Q h' (cells + c') (slots + s') (pc + 3) Ls (own_pu v S)) (w1 : tables_1[i1]? = some (Jvm.Cond.methodLink y index zz) := by rfl) (w2 : tables_1[i2]? = some (Jvm.Cond.sameMethod zz.cls C' zz.name zz.desc) := by rfl) (w3 : tables_1[i3]? = some (Jvm.Cond.declares ⟨C', zz.name, zz.desc⟩) := by rfl) (w4 : tables_1[i4]? = some (Jvm.Cond.selects C zz z) := by rfl) (w5 : tables_1[i5]? = some (Jvm.Cond.instanceMethod z) := by rfl) (w6 : tables_1[i6]? = some (Jvm.Cond.initialized z.cls) := by rfl) (w7 : tables_1[i7]? = some (Jvm.Cond.code z b' ml' rt') := by rfl) (hD : zz.desc = D := by rfl) (hy' : C' ≠ "java/lang/invoke/MethodHandle" ∧ C' ≠ "java/lang/invoke/VarHandle" := by decide) (hW : (S.map fun v => v.category).sum = W := by rfl) (hz : Ls.size = ml := by rfl) (hn : as'.length = ps.length := by rfl) (hf : f' + 1 ≤ R.frames := by decide) (hl : W + (ml' + 11) + o' ≤ R.locals := by decide) (hc : cells + c' ≤ R.cells := by decide) (hs : slots + s' ≤ R.slots := by decide) : own_A l Z a0 y b ml nm rt R A rc rs Q h cells slots pc Ls S' := by
  intro p e s m below meth c T L B E X eT N
  obtain ⟨hw, hx, hy, hml, hown, hnm, hret, hlk, hZ⟩ := id B
  obtain ⟨v, T', L', X', hQ, st⟩ := own_cVU (Q := fun v h _L => Q' v h ∧ Ext Z.heap h ∧ Fr Z.heap.size _L) (W := W) X hx hZ hown (WW hw i1 w1) (WW hw i2 w2) (WW hw i3 w3) (WW hw i4 w4) (WW hw i5 w5) (WW hw i6 w6) (WW hw i7 w7) (rm E []) eT Ex hml (g := mkF m pc Ls S') (by rw [hD]; exact pd) (hb hy dd) as' S hst rfl rfl hz hn hy' (by show 2 * 0 + _ ≤ _; rw [hW]; exact Nat.le_of_eq (Nat.zero_add W)) hf hl hc hs
  cases v with
  | none => exact own_go st (K none T'.heap hQ.1 p e s m below meth c T' (L ++ L') B hQ.2.1 X' rfl (N.app hQ.2.2))
  | some u => exact own_go st (K (some u) T'.heap hQ.1 p e s m below meth c T' (L ++ L') B hQ.2.1 X' rfl (N.app hQ.2.2))
theorem jcF (W i1 i2 i3 i4 i5 i6 i7 i8 i9 i10 : Nat) {index count f' c' s' o' ml' : Nat} {C : String} {z zz : MethodName} {b' : ByteArray} {rt' : Option FieldType} {as' : List Value} {Q' : Option Value → Heap → Prop} {ps : List FieldType} {r' : Option FieldType} (rm : own_M l Z h z b' ml' rt' f' c' s' o' ((.ref a :: as').toArray) Q') (Ex : Exa Z h a C) {D : String} (pd : parseMethodDescriptor D = some ⟨ps, r'⟩) (dd : DC b pc (.invokeinterface index count) 5) (hst : S' = as'.reverse ++ .ref a :: S) (K : ∀ v h', Q' v h' → own_A l Z a0 y b ml nm rt R A rc rs Q h' (cells + c') (slots + s') (pc + 5) Ls (own_pu v S)) (w1 : tables_1[i1]? = some (Jvm.Cond.methodLink y index zz) := by rfl) (w2 : tables_1[i2]? = some (Jvm.Cond.declares zz) := by rfl) (w3 : tables_1[i3]? = some (Jvm.Cond.interfaceMethod zz.cls zz.cls zz.name zz.desc) := by rfl) (w4 : tables_1[i4]? = some (Jvm.Cond.selects C zz z) := by rfl) (w5 : tables_1[i5]? = some (Jvm.Cond.instanceMethod z) := by rfl) (w6 : tables_1[i6]? = some (Jvm.Cond.publicMethod z) := by rfl) (w7 : tables_1[i7]? = some (Jvm.Cond.unhidden C zz.name zz.desc) := by rfl) (w8 : tables_1[i8]? = some (Jvm.Cond.castable C zz.cls) := by rfl) (w9 : tables_1[i9]? = some (Jvm.Cond.initialized z.cls) := by rfl) (w10 : tables_1[i10]? = some (Jvm.Cond.code z b' ml' rt') := by rfl) (hD : zz.desc = D := by rfl) (hk : ((Jvm.Cond.interfaceMethod zz.cls zz.cls zz.name zz.desc).onTables && (Jvm.Cond.interfaceMethod zz.cls zz.cls zz.name zz.desc).keepsFace) = true := by first | rfl | decide) (hy' : own_np zz := by decide) (hW : (S.map fun v => v.category).sum = W := by rfl) (hz : Ls.size = ml := by rfl) (hn : as'.length = ps.length := by rfl) (hf : f' + 1 ≤ R.frames := by decide) (hl : W + (ml' + 11) + o' ≤ R.locals := by decide) (hc : cells + c' ≤ R.cells := by decide) (hs : slots + s' ≤ R.slots := by decide) : own_A l Z a0 y b ml nm rt R A rc rs Q h cells slots pc Ls S' := by
  intro p e s m below meth c T L B E X eT N
  obtain ⟨hw, hx, hy, hml, hown, hnm, hret, hlk, hZ⟩ := id B
  obtain ⟨v, T', L', X', hQ, st⟩ := own_cF (Q := fun v h _L => Q' v h ∧ Ext Z.heap h ∧ Fr Z.heap.size _L) (W := W) X hx hZ hown (WW hw i1 w1) (WW hw i2 w2) (mvT hZ (WW hw i3 w3) hk) (WW hw i4 w4) (WW hw i5 w5) (WW hw i6 w6) (WW hw i7 w7) (WW hw i8 w8) (WW hw i9 w9) (WW hw i10 w10) (rm E []) eT Ex hml (g := mkF m pc Ls S') (by rw [hD]; exact pd) (hb hy dd) as' S hst rfl rfl hz hn hy' (by show 2 * 0 + _ ≤ _; rw [hW]; exact Nat.le_of_eq (Nat.zero_add W)) hf hl hc hs
  cases v with
  | none => exact own_go st (K none T'.heap hQ.1 p e s m below meth c T' (L ++ L') B hQ.2.1 X' rfl (N.app hQ.2.2))
  | some u => exact own_go st (K (some u) T'.heap hQ.1 p e s m below meth c T' (L ++ L') B hQ.2.1 X' rfl (N.app hQ.2.2))
theorem jcG (W i1 i2 i3 i4 i5 i6 i7 i8 i9 i10 : Nat) {index count f' c' s' o' ml' : Nat} {C : String} {z zz : MethodName} {b' : ByteArray} {rt' : Option FieldType} {hds : List (Nat × Nat × Nat × Nat)} {as' : List Value} {Q' : Option Value → Heap → Prop} {ps : List FieldType} {r' : Option FieldType} (rm : own_MW l Z h z b' ml' rt' hds f' c' s' o' ((.ref a :: as').toArray) Q') (Ex : Exa Z h a C) {D : String} (pd : parseMethodDescriptor D = some ⟨ps, r'⟩) (dd : DC b pc (.invokeinterface index count) 5) (hst : S' = as'.reverse ++ .ref a :: S) (K : ∀ v h', Q' v h' → own_A l Z a0 y b ml nm rt R A rc rs Q h' (cells + c') (slots + s') (pc + 5) Ls (own_pu v S)) (w1 : tables_1[i1]? = some (Jvm.Cond.methodLink y index zz) := by rfl) (w2 : tables_1[i2]? = some (Jvm.Cond.declares zz) := by rfl) (w3 : tables_1[i3]? = some (Jvm.Cond.interfaceMethod zz.cls zz.cls zz.name zz.desc) := by rfl) (w4 : tables_1[i4]? = some (Jvm.Cond.selects C zz z) := by rfl) (w5 : tables_1[i5]? = some (Jvm.Cond.instanceMethod z) := by rfl) (w6 : tables_1[i6]? = some (Jvm.Cond.publicMethod z) := by rfl) (w7 : tables_1[i7]? = some (Jvm.Cond.unhidden C zz.name zz.desc) := by rfl) (w8 : tables_1[i8]? = some (Jvm.Cond.castable C zz.cls) := by rfl) (w9 : tables_1[i9]? = some (Jvm.Cond.initialized z.cls) := by rfl) (w10 : tables_1[i10]? = some (Jvm.Cond.codeWith z b' ml' rt' hds) := by rfl) (hD : zz.desc = D := by rfl) (hk : ((Jvm.Cond.interfaceMethod zz.cls zz.cls zz.name zz.desc).onTables && (Jvm.Cond.interfaceMethod zz.cls zz.cls zz.name zz.desc).keepsFace) = true := by first | rfl | decide) (hy' : own_np zz := by decide) (hW : (S.map fun v => v.category).sum = W := by rfl) (hz : Ls.size = ml := by rfl) (hn : as'.length = ps.length := by rfl) (hf : f' + 1 ≤ R.frames := by decide) (hl : W + (ml' + 11) + o' ≤ R.locals := by decide) (hc : cells + c' ≤ R.cells := by decide) (hs : slots + s' ≤ R.slots := by decide) : own_A l Z a0 y b ml nm rt R A rc rs Q h cells slots pc Ls S' := by
  intro p e s m below meth c T L B E X eT N
  obtain ⟨hw, hx, hy, hml, hown, hnm, hret, hlk, hZ⟩ := id B
  obtain ⟨v, T', L', X', hQ, st⟩ := own_cFW (Q := fun v h _L => Q' v h ∧ Ext Z.heap h ∧ Fr Z.heap.size _L) (W := W) X hx hZ hown (WW hw i1 w1) (WW hw i2 w2) (mvT hZ (WW hw i3 w3) hk) (WW hw i4 w4) (WW hw i5 w5) (WW hw i6 w6) (WW hw i7 w7) (WW hw i8 w8) (WW hw i9 w9) (WW hw i10 w10) (rm E []) eT Ex hml (g := mkF m pc Ls S') (by rw [hD]; exact pd) (hb hy dd) as' S hst rfl rfl hz hn hy' (by show 2 * 0 + _ ≤ _; rw [hW]; exact Nat.le_of_eq (Nat.zero_add W)) hf hl hc hs
  cases v with
  | none => exact own_go st (K none T'.heap hQ.1 p e s m below meth c T' (L ++ L') B hQ.2.1 X' rfl (N.app hQ.2.2))
  | some u => exact own_go st (K (some u) T'.heap hQ.1 p e s m below meth c T' (L ++ L') B hQ.2.1 X' rfl (N.app hQ.2.2))
theorem jeT (W i1 i2 i3 i4 i5 : Nat) {index : Nat} {C : String} {bb : ByteArray} (nf : own_nf Z a0 ⟨"java/lang/Object", "equals", "(Ljava/lang/Object;)Z"⟩) (Ex : Exa Z h a C) (dd : DC b pc (.invokevirtual index) 3) (K : own_A l Z a0 y b ml nm rt R A rc rs Q h (cells + 0) (slots + 0) (pc + 3) Ls (.int 1 :: S)) (w1 : tables_1[i1]? = some (Jvm.Cond.methodLink y index ⟨"java/lang/Object", "equals", "(Ljava/lang/Object;)Z"⟩) := by rfl) (w2 : tables_1[i2]? = some (Jvm.Cond.declares ⟨"java/lang/Object", "equals", "(Ljava/lang/Object;)Z"⟩) := by rfl) (w3 : tables_1[i3]? = some (Jvm.Cond.selects C ⟨"java/lang/Object", "equals", "(Ljava/lang/Object;)Z"⟩ ⟨"java/lang/Object", "equals", "(Ljava/lang/Object;)Z"⟩) := by rfl) (w4 : tables_1[i4]? = some (Jvm.Cond.instanceMethod ⟨"java/lang/Object", "equals", "(Ljava/lang/Object;)Z"⟩) := by rfl) (w5 : tables_1[i5]? = some (Jvm.Cond.code ⟨"java/lang/Object", "equals", "(Ljava/lang/Object;)Z"⟩ bb 2 (some .boolean)) := by rfl) (hW : (S.map fun v => v.category).sum = W := by rfl) (hz : Ls.size = ml := by rfl) (hb' : decode bb 0 = .ok (.aload_n 0, 1) ∧ decode bb 1 = .ok (.aload_n 1, 1) ∧ decode bb 2 = .ok (.if_acmp .ne 7, 3) ∧ decode bb 5 = .ok (.iconst 1, 1) ∧ decode bb 6 = .ok (.goto 4, 3) ∧ decode bb 9 = .ok (.iconst 0, 1) ∧ decode bb 10 = .ok (.ireturn, 1) := by decide +kernel) (hf : 1 ≤ R.frames := by decide) (hl : W + 13 ≤ R.locals := by decide) (hc : cells + 0 ≤ R.cells := by decide) (hs : slots + 0 ≤ R.slots := by decide) : own_A l Z a0 y b ml nm rt R A rc rs Q h cells slots pc Ls (.ref a :: .ref a :: S) := by
  intro p e s m below meth c T L B E X eT N
  obtain ⟨hw, hx, hy, hml, hown, hnm, hret, hlk, hZ⟩ := id B
  obtain ⟨cq, kq, qa, qb, qc⟩ := isOf hZ eT Ex
  obtain ⟨_, _, ⟨T', L', k', n'⟩, -, X', ⟨Lc, hQ, h1, h2, h3⟩, st⟩ := X.virtualBack hx (y := ⟨"java/lang/Object", "equals", "(Ljava/lang/Object;)Z"⟩) (z := ⟨"java/lang/Object", "equals", "(Ljava/lang/Object;)Z"⟩) hown (mvT hZ (WW hw i1 w1)) (mvT hZ (WW hw i2 w2)) (nf s hZ) (mvT hZ (WW hw i3 w3)) (mvT hZ (WW hw i4 w4)) (by decide) (own_objEq (W := W) (n0 := Z.heap.size) hx hZ (WW hw i5 w5) (a := a) (x := .ref a) rfl (same := true) (decide_eq_true rfl) hf hl hb') qa qc (g := mkF m pc Ls (.ref a :: .ref a :: S)) rfl (hz.trans hml.symm) (Steps.refl _) (argsL := [.ref a]) (rest := S) (lenOf (show parseMethodDescriptor "(Ljava/lang/Object;)Z" = some ⟨[.object "java/lang/Object"], some .boolean⟩ by decide +kernel) rfl) rfl (by show 2 * 0 + _ ≤ _; rw [hW]; exact Nat.le_of_eq (Nat.zero_add W)) (hb hy dd) (fun _ _ => ⟨rfl, eT, hc, hs⟩)
  dsimp only [Pt.U, Pt.locs, Pt.cells, Pt.slots] at X' h1 h2 h3 st hQ
  subst h1 h2 h3
  obtain ⟨rfl, N', e'⟩ := hQ
  exact own_go (fun _ k => st.trans k) (K p e s m below meth c T' _ B E X' e' (N.app N'))
theorem jeF (W i1 i2 i3 i4 i5 : Nat) {index : Nat} {C : String} {bb : ByteArray} (q : a ≠ a') (nf : own_nf Z a0 ⟨"java/lang/Object", "equals", "(Ljava/lang/Object;)Z"⟩) (Ex : Exa Z h a C) (dd : DC b pc (.invokevirtual index) 3) (K : own_A l Z a0 y b ml nm rt R A rc rs Q h (cells + 0) (slots + 0) (pc + 3) Ls (.int 0 :: S)) (w1 : tables_1[i1]? = some (Jvm.Cond.methodLink y index ⟨"java/lang/Object", "equals", "(Ljava/lang/Object;)Z"⟩) := by rfl) (w2 : tables_1[i2]? = some (Jvm.Cond.declares ⟨"java/lang/Object", "equals", "(Ljava/lang/Object;)Z"⟩) := by rfl) (w3 : tables_1[i3]? = some (Jvm.Cond.selects C ⟨"java/lang/Object", "equals", "(Ljava/lang/Object;)Z"⟩ ⟨"java/lang/Object", "equals", "(Ljava/lang/Object;)Z"⟩) := by rfl) (w4 : tables_1[i4]? = some (Jvm.Cond.instanceMethod ⟨"java/lang/Object", "equals", "(Ljava/lang/Object;)Z"⟩) := by rfl) (w5 : tables_1[i5]? = some (Jvm.Cond.code ⟨"java/lang/Object", "equals", "(Ljava/lang/Object;)Z"⟩ bb 2 (some .boolean)) := by rfl) (hW : (S.map fun v => v.category).sum = W := by rfl) (hz : Ls.size = ml := by rfl) (hb' : decode bb 0 = .ok (.aload_n 0, 1) ∧ decode bb 1 = .ok (.aload_n 1, 1) ∧ decode bb 2 = .ok (.if_acmp .ne 7, 3) ∧ decode bb 5 = .ok (.iconst 1, 1) ∧ decode bb 6 = .ok (.goto 4, 3) ∧ decode bb 9 = .ok (.iconst 0, 1) ∧ decode bb 10 = .ok (.ireturn, 1) := by decide +kernel) (hf : 1 ≤ R.frames := by decide) (hl : W + 13 ≤ R.locals := by decide) (hc : cells + 0 ≤ R.cells := by decide) (hs : slots + 0 ≤ R.slots := by decide) : own_A l Z a0 y b ml nm rt R A rc rs Q h cells slots pc Ls (.ref a' :: .ref a :: S) := by
  intro p e s m below meth c T L B E X eT N
  obtain ⟨hw, hx, hy, hml, hown, hnm, hret, hlk, hZ⟩ := id B
  obtain ⟨cq, kq, qa, qb, qc⟩ := isOf hZ eT Ex
  obtain ⟨_, _, ⟨T', L', k', n'⟩, -, X', ⟨Lc, hQ, h1, h2, h3⟩, st⟩ := X.virtualBack hx (y := ⟨"java/lang/Object", "equals", "(Ljava/lang/Object;)Z"⟩) (z := ⟨"java/lang/Object", "equals", "(Ljava/lang/Object;)Z"⟩) hown (mvT hZ (WW hw i1 w1)) (mvT hZ (WW hw i2 w2)) (nf s hZ) (mvT hZ (WW hw i3 w3)) (mvT hZ (WW hw i4 w4)) (by decide) (own_objEq (W := W) (n0 := Z.heap.size) hx hZ (WW hw i5 w5) (a := a) (x := .ref a') rfl (same := false) (decide_eq_false fun e => q (Value.ref.inj e)) hf hl hb') qa qc (g := mkF m pc Ls (.ref a' :: .ref a :: S)) rfl (hz.trans hml.symm) (Steps.refl _) (argsL := [.ref a']) (rest := S) (lenOf (show parseMethodDescriptor "(Ljava/lang/Object;)Z" = some ⟨[.object "java/lang/Object"], some .boolean⟩ by decide +kernel) rfl) rfl (by show 2 * 0 + _ ≤ _; rw [hW]; exact Nat.le_of_eq (Nat.zero_add W)) (hb hy dd) (fun _ _ => ⟨rfl, eT, hc, hs⟩)
  dsimp only [Pt.U, Pt.locs, Pt.cells, Pt.slots] at X' h1 h2 h3 st hQ
  subst h1 h2 h3
  obtain ⟨rfl, N', e'⟩ := hQ
  exact own_go (fun _ k => st.trans k) (K p e s m below meth c T' _ B E X' e' (N.app N'))
theorem jcp (us vd' : List Value) (W i1 i2 i3 i4 : Nat) {index : Nat} {k k' : ClassId} {ty ty' : FieldType} {z z' sp dp nn : Int32} {vs vd : List Value} {dv d' : Value} (V : Arv Z h a k ty z vs dv) (V' : Arv Z h a' k' ty' z' vd d') (sto : Jvm.RoadKit.StoL Z h a' us) (ge : Z.heap.size ≤ a') (dd : DC b pc (.invokestatic index) 3) (hv : vd.take dp.toNatClampNeg ++ us ++ vd.drop (dp.toNatClampNeg + nn.toNatClampNeg) = vd') (K : ∀ h', Keep h h' [a'] → Arv Z h' a' k' ty' z' vd' d' → own_A l Z a0 y b ml nm rt R A rc rs Q h' cells slots (pc + 3) Ls S) (w1 : tables_1[i1]? = some (Jvm.Cond.methodLink y index Jvm.Stand.acN) := by rfl) (w2 : tables_1[i2]? = some (Jvm.Cond.native Jvm.Stand.acN) := by rfl) (w3 : tables_1[i3]? = some (Jvm.Cond.static Jvm.Stand.acN) := by rfl) (w4 : tables_1[i4]? = some (Jvm.Cond.initialized "java/lang/System") := by rfl) (r1 : refKind ty = true := by rfl) (r2 : refKind ty' = true := by rfl) (p1 : ¬ sp < 0 := by decide) (p2 : ¬ dp < 0 := by decide) (p3 : ¬ nn < 0 := by decide) (p4 : sp.toNatClampNeg + nn.toNatClampNeg ≤ z.toNatClampNeg := by decide) (p5 : dp.toNatClampNeg + nn.toNatClampNeg ≤ z'.toNatClampNeg := by decide) (hus : us = (List.range nn.toNatClampNeg).map fun i => vs.getD (sp.toNatClampNeg + i) dv := by rfl) (hl0 : dp.toNatClampNeg + nn.toNatClampNeg ≤ vd.length := by exact Nat.le_of_ble_eq_true rfl) (hW : (S.map fun v => v.category).sum = W := by rfl) (hz : Ls.size = ml := by rfl) (hf : 1 ≤ R.frames := by decide) (hl : W + (nativeFrameWords "java/lang/System" "arraycopy" 5 + 11) ≤ R.locals := by decide) : own_A l Z a0 y b ml nm rt R A rc rs Q h cells slots pc Ls (.int nn :: .int dp :: .ref a' :: .int sp :: .ref a :: S) := by
  intro p e s m below meth c T L B E X eT N
  obtain ⟨hw, hx, hy, hml, hown, hnm, hret, hlk, hZ⟩ := id B
  obtain ⟨T', h', L', X', e', N', K', V2, st⟩ := cpA (us := us) (sp := sp) (dp := dp) (nn := nn) X hx hZ hown (WW hw i1 w1) (WW hw i2 w2) (WW hw i3 w3) (WW hw i4 w4) eT V V' (Or.inr ⟨r1, r2, sto⟩) p1 p2 p3 p4 p5 hus hl0 N ge (g := mkF m pc Ls (.int nn :: .int dp :: .ref a' :: .int sp :: .ref a :: S)) rfl (hz.trans hml.symm) (rest := S) rfl (hb hy dd) hf (W := W) (by show 2 * 0 + _ ≤ _; rw [hW]; exact Nat.le_of_eq (Nat.zero_add W)) hl
  subst hv
  exact own_go st (K h' K' V2 p e s m below meth c T' L' B (Old.keep ⟨rfl, E⟩ K' (allS ge all0)).2 X' e' N')
theorem jrV (dd : DC b pc .return_ 1) (hq : Q (none) h) (hc : cells ≤ rc := by decide) (hs : slots ≤ rs := by decide) : own_A l Z a0 y b ml nm none R A rc rs Q h cells slots pc Ls [] := by
  intro p e s m below meth c T L B E X eT N
  obtain ⟨hw, hx, hy, hml, hown, hnm, hret, hlk, hZ⟩ := id B
  obtain ⟨fs, hr, hrun, hended, hW, hsame⟩ := X.leave (v := none) (fun _ => rfl)
  refine own_end (X.returnOut hx hret (hb hy dd) hr) hrun hended ⟨_, _, rfl, ?_, ?_, N, ⟨_, rfl⟩, hW, hsame.mono hc hs⟩
  · show Q _ T.heap
    rw [eT]; exact hq
  · show Ext Z.heap T.heap
    rw [eT]; exact E
theorem jrI (dd : DC b pc .ireturn 1) (hq : Q (some (.int x)) h) (hc : cells ≤ rc := by decide) (hs : slots ≤ rs := by decide) : own_A l Z a0 y b ml nm (some .int) R A rc rs Q h cells slots pc Ls (.int x :: S) := by
  intro p e s m below meth c T L B E X eT N
  obtain ⟨hw, hx, hy, hml, hown, hnm, hret, hlk, hZ⟩ := id B
  obtain ⟨fs, hr, hrun, hended, hW, hsame⟩ := X.leave (v := some (.int x)) (fun q => by rw [hret] at q; cases q)
  refine own_end (retOut X hx hret rfl (Or.inl ⟨rfl, Or.inl rfl, _, rfl⟩) (hb hy dd) hr) hrun hended ⟨_, _, rfl, ?_, ?_, N, ⟨_, rfl⟩, hW, hsame.mono hc hs⟩
  · show Q _ T.heap
    rw [eT]; exact hq
  · show Ext Z.heap T.heap
    rw [eT]; exact E
theorem jrZ (dd : DC b pc .ireturn 1) (hq : Q (some (.int (nar .boolean x))) h) (hc : cells ≤ rc := by decide) (hs : slots ≤ rs := by decide) : own_A l Z a0 y b ml nm (some .boolean) R A rc rs Q h cells slots pc Ls (.int x :: S) := by
  intro p e s m below meth c T L B E X eT N
  obtain ⟨hw, hx, hy, hml, hown, hnm, hret, hlk, hZ⟩ := id B
  obtain ⟨fs, hr, hrun, hended, hW, hsame⟩ := X.leave (v := some (.int (nar .boolean x))) (fun q => by rw [hret] at q; cases q)
  refine own_end (retN X hx (t := .boolean) hret (by simp) (hb hy dd) hr) hrun hended ⟨_, _, rfl, ?_, ?_, N, ⟨_, rfl⟩, hW, hsame.mono hc hs⟩
  · show Q _ T.heap
    rw [eT]; exact hq
  · show Ext Z.heap T.heap
    rw [eT]; exact E
theorem jrA {D : String} (dd : DC b pc .areturn 1) (hq : Q (some (.ref a)) h) (hc : cells ≤ rc := by decide) (hs : slots ≤ rs := by decide) : own_A l Z a0 y b ml nm (some (.object D)) R A rc rs Q h cells slots pc Ls (.ref a :: S) := by
  intro p e s m below meth c T L B E X eT N
  obtain ⟨hw, hx, hy, hml, hown, hnm, hret, hlk, hZ⟩ := id B
  obtain ⟨fs, hr, hrun, hended, hW, hsame⟩ := X.leave (v := some (.ref a)) (fun q => by rw [hret] at q; cases q)
  refine own_end (retOut X hx hret rfl (Or.inr (Or.inr (Or.inr (Or.inr ⟨rfl, rfl, rfl⟩)))) (hb hy dd) hr) hrun hended ⟨_, _, rfl, ?_, ?_, N, ⟨_, rfl⟩, hW, hsame.mono hc hs⟩
  · show Q _ T.heap
    rw [eT]; exact hq
  · show Ext Z.heap T.heap
    rw [eT]; exact E
theorem jrAn {D : String} (dd : DC b pc .areturn 1) (hq : Q (some .null) h) (hc : cells ≤ rc := by decide) (hs : slots ≤ rs := by decide) : own_A l Z a0 y b ml nm (some (.object D)) R A rc rs Q h cells slots pc Ls (.null :: S) := by
  intro p e s m below meth c T L B E X eT N
  obtain ⟨hw, hx, hy, hml, hown, hnm, hret, hlk, hZ⟩ := id B
  obtain ⟨fs, hr, hrun, hended, hW, hsame⟩ := X.leave (v := some .null) (fun q => by rw [hret] at q; cases q)
  refine own_end (retOut X hx hret rfl (Or.inr (Or.inr (Or.inr (Or.inr ⟨rfl, rfl, rfl⟩)))) (hb hy dd) hr) hrun hended ⟨_, _, rfl, ?_, ?_, N, ⟨_, rfl⟩, hW, hsame.mono hc hs⟩
  · show Q _ T.heap
    rw [eT]; exact hq
  · show Ext Z.heap T.heap
    rw [eT]; exact E
theorem jrB {D : FieldType} (dd : DC b pc .areturn 1) (hq : Q (some (.ref a)) h) (hc : cells ≤ rc := by decide) (hs : slots ≤ rs := by decide) : own_A l Z a0 y b ml nm (some (.array D)) R A rc rs Q h cells slots pc Ls (.ref a :: S) := by
  intro p e s m below meth c T L B E X eT N
  obtain ⟨hw, hx, hy, hml, hown, hnm, hret, hlk, hZ⟩ := id B
  obtain ⟨fs, hr, hrun, hended, hW, hsame⟩ := X.leave (v := some (.ref a)) (fun q => by rw [hret] at q; cases q)
  refine own_end (retOut X hx hret rfl (Or.inr (Or.inr (Or.inr (Or.inr ⟨rfl, rfl, rfl⟩)))) (hb hy dd) hr) hrun hended ⟨_, _, rfl, ?_, ?_, N, ⟨_, rfl⟩, hW, hsame.mono hc hs⟩
  · show Q _ T.heap
    rw [eT]; exact hq
  · show Ext Z.heap T.heap
    rw [eT]; exact E
end Direct
/-- a Long's cache -/
def own_BoxLong (Z : State) (a : Addr) : Prop := ∃ c, Bxs Z a c "java/lang/Long" "J" 256 (fun j => .long (j - 128).toInt64)
theorem own_boxL (x : Int64) (h1 : ¬ own_lc x (-128 : Int64) < (0 : Int32)) (h2 : ¬ (0 : Int32) < own_lc x (127 : Int64)) : ¬ (x.toInt32 + (128 : Int32)) < 0 ∧ (x.toInt32 + (128 : Int32)) < 256 := by
  have a1 : -128 ≤ x.toInt := by
    unfold own_lc at h1
    split at h1
    · rename_i g
      have g' := Int64.lt_iff_toInt_lt.mp g
      have e : (-128 : Int64).toInt = -128 := rfl
      omega
    · split at h1
      · rename_i g; subst g; decide
      · exact absurd (by decide) h1
  have a2 : x.toInt ≤ 127 := by
    unfold own_lc at h2
    split at h2
    · exact absurd (by decide) h2
    · rename_i g
      have e : (127 : Int64).toInt = 127 := rfl
      have g' : ¬ (127 : Int64).toInt < x.toInt := fun q => g (Int64.lt_iff_toInt_lt.mpr q)
      omega
  have e0 : x.toInt32.toInt = x.toInt := by
    rw [Int64.toInt_toInt32, Int.bmod_eq_of_le] <;> omega
  simp only [Int32.lt_iff_toInt_lt, Int32.toInt_add, e0]
  have e3 : (128 : Int32).toInt = 128 := rfl
  have e4 : (0 : Int32).toInt = 0 := rfl
  have e5 : (256 : Int32).toInt = 256 := rfl
  rw [e3, e4, e5]
  have : (x.toInt + 128).bmod (2 ^ 32) = x.toInt + 128 := by
    rw [Int.bmod_eq_of_le] <;> omega
  omega
theorem own_boxedLong {Z : State} {args : Array Value} {t : Term} {a : Addr} (et : ∀ idx, t.eval args Z none idx Z = some (.ref a)) (ha : (Jvm.Cond.arrayOf t (.object "java/lang/Long")).value args Z none Z [] = some true) (hl : (Jvm.Cond.eq (Jvm.Term.length t) (Jvm.Term.int 256)).value args Z none Z [] = some true)
    (h : (Jvm.Cond.all t (.and (.exactly (.elem t (.index 0)) "java/lang/Long") (.eq (.field (.elem t (.index 0)) "java/lang/Long" "value" "J") (.op1 .i2l (.sub (.index 0) (.int 128)))))).value args Z none Z [] = some true) : own_BoxLong Z a := by
  obtain ⟨cl, A⟩ := Arr.start (et []) ha
  obtain ⟨q, e⟩ := own_len (et []) A hl
  exact ⟨cl, Bxs.start et A q e (by decide) h fun X j nn hx => eqv_l (i2l_at (by
    have hi : (Jvm.Term.index 0).eval args Z none [j.toNatClampNeg] Z = some (.int j) := idx_at nn
    have hj : j.toNatClampNeg.toInt32 = j := by simpa [Term.eval] using hi
    simp [Term.eval, hj])) hx⟩
abbrev cC0 : String := "java/util/ImmutableCollections$ListN"
abbrev cC1 : String := "[Ljava/lang/Object;"
abbrev cC2 : String := "com/example/acidb/acidb/sql/LockMode"
abbrev cC3 : String := "Lcom/example/acidb/acidb/sql/LockMode;"
abbrev c1 := jdk_35_method_24_code
theorem d1_0 : DC c1 0 (.sipush 128) 3 := by decide +kernel
theorem d1_3 : DC c1 3 (.istore_n 2) 1 := by decide +kernel
theorem d1_4 : DC c1 4 (.lload_n 0) 1 := by decide +kernel
theorem d1_5 : DC c1 5 (.ldc2_w 230) 3 := by decide +kernel
theorem d1_8 : DC c1 8 (.lcmp) 1 := by decide +kernel
theorem d1_9 : DC c1 9 (.ifCond .lt 22) 3 := by decide +kernel
theorem d1_31 : DC c1 31 (.new 1) 3 := by decide +kernel
theorem d1_34 : DC c1 34 (.dup) 1 := by decide +kernel
theorem d1_35 : DC c1 35 (.lload_n 0) 1 := by decide +kernel
theorem d1_36 : DC c1 36 (.invokespecial 240) 3 := by decide +kernel
abbrev c54 := jdk_35_method_26_code
theorem d54_0 : DC c54 0 (.aload_n 0) 1 := by decide +kernel
theorem d54_1 : DC c54 1 (.invokespecial 270) 3 := by decide +kernel
abbrev c55 := jdk_18_method_1_code
theorem d55_0 : DC c55 0 (.aload_n 0) 1 := by decide +kernel
theorem d55_1 : DC c55 1 (.invokespecial 1) 3 := by decide +kernel
theorem d55_4 : DC c55 4 (.return_) 1 := by decide +kernel
abbrev cC4 : String := "java/lang/Number"
abbrev yM0 : MethodName := ⟨cC4, "<init>", "()V"⟩
theorem pn55 : plainName "java/lang/Number" = true := by first | (simp [plainName, overriddenIn]; done) | decide +kernel
theorem pd0 : parseMethodDescriptor "()V" = some ⟨[], none⟩ := by decide +kernel
theorem d54_4 : DC c54 4 (.aload_n 0) 1 := by decide +kernel
theorem d54_5 : DC c54 5 (.lload_n 1) 1 := by decide +kernel
theorem d54_6 : DC c54 6 (.putfield 273) 3 := by decide +kernel
abbrev cC5 : String := "java/lang/Long"
theorem d54_9 : DC c54 9 (.return_) 1 := by decide +kernel
abbrev yM1 : MethodName := ⟨cC5, "<init>", "(J)V"⟩
theorem pn1 : plainName "java/lang/Long" = true := by first | (simp [plainName, overriddenIn]; done) | decide +kernel
theorem pd1 : parseMethodDescriptor "(J)V" = some ⟨[.long], none⟩ := by decide +kernel
theorem d1_39 : DC c1 39 (.areturn) 1 := by decide +kernel
theorem d1_12 : DC c1 12 (.lload_n 0) 1 := by decide +kernel
theorem d1_13 : DC c1 13 (.ldc2_w 232) 3 := by decide +kernel
theorem d1_16 : DC c1 16 (.lcmp) 1 := by decide +kernel
theorem d1_17 : DC c1 17 (.ifCond .gt 14) 3 := by decide +kernel
theorem d1_20 : DC c1 20 (.getstatic 234) 3 := by decide +kernel
abbrev cC6 : String := "java/lang/Long$LongCache"
abbrev cC7 : String := "[Ljava/lang/Long;"
theorem d1_23 : DC c1 23 (.lload_n 0) 1 := by decide +kernel
theorem d1_24 : DC c1 24 (.l2i) 1 := by decide +kernel
theorem d1_25 : DC c1 25 (.sipush 128) 3 := by decide +kernel
theorem d1_28 : DC c1 28 (.iadd) 1 := by decide +kernel
theorem d1_29 : DC c1 29 (.aaload) 1 := by decide +kernel
theorem d1_30 : DC c1 30 (.areturn) 1 := by decide +kernel
abbrev yM2 : MethodName := ⟨cC5, "valueOf", "(J)Ljava/lang/Long;"⟩
theorem pd2 : parseMethodDescriptor "(J)Ljava/lang/Long;" = some ⟨[.long], some (.object "java/lang/Long")⟩ := by decide +kernel
abbrev c2 := prog_36_method_1_code
theorem d2_0 : DC c2 0 (.aload_n 0) 1 := by decide +kernel
theorem d2_1 : DC c2 1 (.invokespecial 1) 3 := by decide +kernel
theorem d2_4 : DC c2 4 (.aload_n 0) 1 := by decide +kernel
theorem d2_5 : DC c2 5 (.aload_n 1) 1 := by decide +kernel
theorem d2_6 : DC c2 6 (.putfield 7) 3 := by decide +kernel
abbrev cC8 : String := "com/example/acidb/acidb/engine/LockedRow"
abbrev cC9 : String := "Ljava/lang/Object;"
theorem d2_9 : DC c2 9 (.return_) 1 := by decide +kernel
abbrev cC10 : String := "Lcom/example/acidb/acidb/engine/Transaction;"
abbrev cC11 : String := "Ljava/util/List;"
abbrev yM3 : MethodName := ⟨cC8, "<init>", "(Ljava/lang/Object;)V"⟩
theorem pn2 : plainName "com/example/acidb/acidb/engine/LockedRow" = true := by first | (simp [plainName, overriddenIn]; done) | decide +kernel
theorem pd3 : parseMethodDescriptor "(Ljava/lang/Object;)V" = some ⟨[(.object "java/lang/Object")], none⟩ := by decide +kernel
abbrev c4 := prog_61_method_1_code
theorem d4_0 : DC c4 0 (.aload_n 0) 1 := by decide +kernel
theorem d4_1 : DC c4 1 (.invokespecial 1) 3 := by decide +kernel
theorem d4_4 : DC c4 4 (.aload_n 0) 1 := by decide +kernel
theorem d4_5 : DC c4 5 (.new 7) 3 := by decide +kernel
theorem d4_8 : DC c4 8 (.dup) 1 := by decide +kernel
theorem d4_9 : DC c4 9 (.invokespecial 9) 3 := by decide +kernel
abbrev c5 := jdk_94_method_16_code
theorem d5_0 : DC c5 0 (.aload_n 0) 1 := by decide +kernel
theorem d5_1 : DC c5 1 (.invokespecial 87) 3 := by decide +kernel
abbrev c6 := jdk_69_method_7_code
theorem d6_0 : DC c6 0 (.aload_n 0) 1 := by decide +kernel
theorem d6_1 : DC c6 1 (.invokespecial 43) 3 := by decide +kernel
abbrev c7 := jdk_71_method_1_code
theorem d7_0 : DC c7 0 (.aload_n 0) 1 := by decide +kernel
theorem d7_1 : DC c7 1 (.invokespecial 1) 3 := by decide +kernel
theorem d7_4 : DC c7 4 (.return_) 1 := by decide +kernel
abbrev cC12 : String := "java/util/AbstractMap"
abbrev yM4 : MethodName := ⟨cC12, "<init>", "()V"⟩
theorem pn7 : plainName "java/util/AbstractMap" = true := by first | (simp [plainName, overriddenIn]; done) | decide +kernel
theorem d6_4 : DC c6 4 (.aload_n 0) 1 := by decide +kernel
theorem d6_5 : DC c6 5 (.ldc 92) 2 := by decide +kernel
theorem d6_7 : DC c6 7 (.putfield 81) 3 := by decide +kernel
abbrev cC13 : String := "java/util/LinkedHashMap"
abbrev cC14 : String := "java/util/HashMap"
theorem d6_10 : DC c6 10 (.return_) 1 := by decide +kernel
abbrev yM5 : MethodName := ⟨cC14, "<init>", "()V"⟩
theorem pn6 : plainName "java/util/HashMap" = true := by first | (simp [plainName, overriddenIn]; done) | decide +kernel
theorem d5_4 : DC c5 4 (.aload_n 0) 1 := by decide +kernel
theorem d5_5 : DC c5 5 (.iconst 0) 1 := by decide +kernel
theorem d5_6 : DC c5 6 (.putfield 1) 3 := by decide +kernel
theorem d5_9 : DC c5 9 (.aload_n 0) 1 := by decide +kernel
theorem d5_10 : DC c5 10 (.iconst 0) 1 := by decide +kernel
theorem d5_11 : DC c5 11 (.putfield 64) 3 := by decide +kernel
theorem d5_14 : DC c5 14 (.return_) 1 := by decide +kernel
abbrev yM6 : MethodName := ⟨cC13, "<init>", "()V"⟩
theorem pn5 : plainName "java/util/LinkedHashMap" = true := by first | (simp [plainName, overriddenIn]; done) | decide +kernel
theorem d4_12 : DC c4 12 (.putfield 10) 3 := by decide +kernel
abbrev cC15 : String := "com/example/acidb/acidb/engine/Transaction"
abbrev cC16 : String := "Ljava/util/Map;"
theorem d4_15 : DC c4 15 (.aload_n 0) 1 := by decide +kernel
theorem d4_16 : DC c4 16 (.lconst 0) 1 := by decide +kernel
theorem d4_17 : DC c4 17 (.putfield 16) 3 := by decide +kernel
theorem d4_20 : DC c4 20 (.aload_n 0) 1 := by decide +kernel
theorem d4_21 : DC c4 21 (.aload_n 1) 1 := by decide +kernel
theorem d4_22 : DC c4 22 (.putfield 20) 3 := by decide +kernel
abbrev cC17 : String := "Lcom/example/acidb/acidb/engine/IsolationLevel;"
theorem d4_25 : DC c4 25 (.return_) 1 := by decide +kernel
abbrev yM7 : MethodName := ⟨cC15, "<init>", "(Lcom/example/acidb/acidb/engine/IsolationLevel;)V"⟩
theorem pn4 : plainName "com/example/acidb/acidb/engine/Transaction" = true := by first | (simp [plainName, overriddenIn]; done) | decide +kernel
theorem pd4 : parseMethodDescriptor "(Lcom/example/acidb/acidb/engine/IsolationLevel;)V" = some ⟨[(.object "com/example/acidb/acidb/engine/IsolationLevel")], none⟩ := by decide +kernel
abbrev c8 := prog_36_method_6_code
theorem d8_0 : DC c8 0 (.aload_n 0) 1 := by decide +kernel
theorem d8_1 : DC c8 1 (.getfield 22) 3 := by decide +kernel
theorem d8_4 : DC c8 4 (.ifnonnull 14) 3 := by decide +kernel
theorem d8_7 : DC c8 7 (.aload_n 0) 1 := by decide +kernel
theorem d8_8 : DC c8 8 (.getfield 61) 3 := by decide +kernel
theorem d8_11 : DC c8 11 (.ifnonnull 7) 3 := by decide +kernel
theorem d8_14 : DC c8 14 (.iconst 1) 1 := by decide +kernel
theorem d8_15 : DC c8 15 (.goto 4) 3 := by decide +kernel
theorem d8_19 : DC c8 19 (.ireturn) 1 := by decide +kernel
abbrev yM8 : MethodName := ⟨cC8, "isFree", "()Z"⟩
theorem pd5 : parseMethodDescriptor "()Z" = some ⟨[], some .boolean⟩ := by decide +kernel
abbrev c9 := prog_36_method_3_code
theorem d9_0 : DC c9 0 (.new 13) 3 := by decide +kernel
theorem d9_3 : DC c9 3 (.dup) 1 := by decide +kernel
theorem d9_4 : DC c9 4 (.aload_n 0) 1 := by decide +kernel
theorem d9_5 : DC c9 5 (.aload_n 1) 1 := by decide +kernel
theorem d9_6 : DC c9 6 (.aload_n 2) 1 := by decide +kernel
theorem d9_7 : DC c9 7 (.aload_n 0) 1 := by decide +kernel
theorem d9_8 : DC c9 8 (.aload_n 1) 1 := by decide +kernel
theorem d9_9 : DC c9 9 (.invokevirtual 15) 3 := by decide +kernel
abbrev c10 := prog_36_method_13_code
theorem d10_0 : DC c10 0 (.aload_n 0) 1 := by decide +kernel
theorem d10_1 : DC c10 1 (.getfield 22) 3 := by decide +kernel
theorem d10_4 : DC c10 4 (.aload_n 1) 1 := by decide +kernel
theorem d10_5 : DC c10 5 (.if_acmp .eq 11) 3 := by decide +kernel
theorem d10_8 : DC c10 8 (.aload_n 0) 1 := by decide +kernel
theorem d10_9 : DC c10 9 (.aload_n 1) 1 := by decide +kernel
theorem d10_10 : DC c10 10 (.invokevirtual 32) 3 := by decide +kernel
abbrev c11 := prog_36_method_14_code
theorem d11_0 : DC c11 0 (.aconst_null) 1 := by decide +kernel
theorem d11_1 : DC c11 1 (.astore_n 2) 1 := by decide +kernel
theorem d11_2 : DC c11 2 (.aload_n 0) 1 := by decide +kernel
theorem d11_3 : DC c11 3 (.getfield 61) 3 := by decide +kernel
theorem d11_6 : DC c11 6 (.ifnull 67) 3 := by decide +kernel
theorem d11_73 : DC c11 73 (.aload_n 2) 1 := by decide +kernel
theorem d11_74 : DC c11 74 (.areturn) 1 := by decide +kernel
abbrev cC18 : String := "com/example/acidb/acidb/engine/LockedRow$Request"
abbrev yM9 : MethodName := ⟨cC8, "sharedBy", "(Lcom/example/acidb/acidb/engine/Transaction;)Lcom/example/acidb/acidb/engine/LockedRow$Request;"⟩
theorem pd6 : parseMethodDescriptor "(Lcom/example/acidb/acidb/engine/Transaction;)Lcom/example/acidb/acidb/engine/LockedRow$Request;" = some ⟨[(.object "com/example/acidb/acidb/engine/Transaction")], some (.object "com/example/acidb/acidb/engine/LockedRow$Request")⟩ := by decide +kernel
theorem d10_13 : DC c10 13 (.ifnull 7) 3 := by decide +kernel
theorem d10_20 : DC c10 20 (.iconst 0) 1 := by decide +kernel
theorem d10_21 : DC c10 21 (.ireturn) 1 := by decide +kernel
abbrev yM10 : MethodName := ⟨cC8, "isHeldBy", "(Lcom/example/acidb/acidb/engine/Transaction;)Z"⟩
theorem pd7 : parseMethodDescriptor "(Lcom/example/acidb/acidb/engine/Transaction;)Z" = some ⟨[(.object "com/example/acidb/acidb/engine/Transaction")], some .boolean⟩ := by decide +kernel
theorem d9_12 : DC c9 12 (.ifCond .ne 7) 3 := by decide +kernel
theorem d9_15 : DC c9 15 (.iconst 1) 1 := by decide +kernel
theorem d9_16 : DC c9 16 (.goto 4) 3 := by decide +kernel
theorem d9_20 : DC c9 20 (.invokespecial 19) 3 := by decide +kernel
abbrev c12 := prog_37_method_1_code
theorem d12_0 : DC c12 0 (.aload_n 0) 1 := by decide +kernel
theorem d12_1 : DC c12 1 (.invokespecial 1) 3 := by decide +kernel
theorem d12_4 : DC c12 4 (.aload_n 0) 1 := by decide +kernel
theorem d12_5 : DC c12 5 (.aload_n 1) 1 := by decide +kernel
theorem d12_6 : DC c12 6 (.putfield 7) 3 := by decide +kernel
abbrev cC19 : String := "Lcom/example/acidb/acidb/engine/LockedRow;"
theorem d12_9 : DC c12 9 (.aload_n 0) 1 := by decide +kernel
theorem d12_10 : DC c12 10 (.aload_n 2) 1 := by decide +kernel
theorem d12_11 : DC c12 11 (.putfield 13) 3 := by decide +kernel
theorem d12_14 : DC c12 14 (.aload_n 0) 1 := by decide +kernel
theorem d12_15 : DC c12 15 (.aload_n 3) 1 := by decide +kernel
theorem d12_16 : DC c12 16 (.putfield 17) 3 := by decide +kernel
theorem d12_19 : DC c12 19 (.aload_n 0) 1 := by decide +kernel
theorem d12_20 : DC c12 20 (.iload 4) 2 := by decide +kernel
theorem d12_22 : DC c12 22 (.putfield 21) 3 := by decide +kernel
theorem d12_25 : DC c12 25 (.return_) 1 := by decide +kernel
abbrev yM11 : MethodName := ⟨cC18, "<init>", "(Lcom/example/acidb/acidb/engine/LockedRow;Lcom/example/acidb/acidb/engine/Transaction;Lcom/example/acidb/acidb/sql/LockMode;Z)V"⟩
theorem pn12 : plainName "com/example/acidb/acidb/engine/LockedRow$Request" = true := by first | (simp [plainName, overriddenIn]; done) | decide +kernel
theorem pd8 : parseMethodDescriptor "(Lcom/example/acidb/acidb/engine/LockedRow;Lcom/example/acidb/acidb/engine/Transaction;Lcom/example/acidb/acidb/sql/LockMode;Z)V" = some ⟨[(.object "com/example/acidb/acidb/engine/LockedRow"), (.object "com/example/acidb/acidb/engine/Transaction"), (.object "com/example/acidb/acidb/sql/LockMode"), .boolean], none⟩ := by decide +kernel
theorem d9_23 : DC c9 23 (.astore_n 3) 1 := by decide +kernel
theorem d9_24 : DC c9 24 (.aload_n 0) 1 := by decide +kernel
theorem d9_25 : DC c9 25 (.getfield 22) 3 := by decide +kernel
theorem d9_28 : DC c9 28 (.aload_n 1) 1 := by decide +kernel
theorem d9_29 : DC c9 29 (.if_acmp .eq 18) 3 := by decide +kernel
theorem d9_32 : DC c9 32 (.aload_n 2) 1 := by decide +kernel
theorem d9_33 : DC c9 33 (.getstatic 26) 3 := by decide +kernel
theorem d9_36 : DC c9 36 (.if_acmp .ne 19) 3 := by decide +kernel
theorem d9_39 : DC c9 39 (.aload_n 0) 1 := by decide +kernel
theorem d9_40 : DC c9 40 (.aload_n 1) 1 := by decide +kernel
theorem d9_41 : DC c9 41 (.invokevirtual 32) 3 := by decide +kernel
theorem d9_44 : DC c9 44 (.ifnull 11) 3 := by decide +kernel
theorem d9_55 : DC c9 55 (.aload_n 0) 1 := by decide +kernel
theorem d9_56 : DC c9 56 (.aload_n 3) 1 := by decide +kernel
theorem d9_57 : DC c9 57 (.invokevirtual 40) 3 := by decide +kernel
abbrev c13 := prog_36_method_15_code
theorem d13_0 : DC c13 0 (.aload_n 0) 1 := by decide +kernel
theorem d13_1 : DC c13 1 (.aload_n 1) 1 := by decide +kernel
theorem d13_2 : DC c13 2 (.invokevirtual 131) 3 := by decide +kernel
abbrev c14 := prog_36_method_16_code
theorem d14_0 : DC c14 0 (.new 138) 3 := by decide +kernel
theorem d14_3 : DC c14 3 (.dup) 1 := by decide +kernel
theorem d14_4 : DC c14 4 (.invokespecial 140) 3 := by decide +kernel
abbrev c15 := jdk_38_method_2_code
theorem d15_0 : DC c15 0 (.aload_n 0) 1 := by decide +kernel
theorem d15_1 : DC c15 1 (.invokespecial 1) 3 := by decide +kernel
abbrev c16 := jdk_39_method_1_code
theorem d16_0 : DC c16 0 (.aload_n 0) 1 := by decide +kernel
theorem d16_1 : DC c16 1 (.invokespecial 1) 3 := by decide +kernel
abbrev c17 := jdk_22_method_1_code
theorem d17_0 : DC c17 0 (.aload_n 0) 1 := by decide +kernel
theorem d17_1 : DC c17 1 (.invokespecial 1) 3 := by decide +kernel
theorem d17_4 : DC c17 4 (.return_) 1 := by decide +kernel
abbrev cC20 : String := "java/util/AbstractCollection"
abbrev yM12 : MethodName := ⟨cC20, "<init>", "()V"⟩
theorem pn17 : plainName "java/util/AbstractCollection" = true := by first | (simp [plainName, overriddenIn]; done) | decide +kernel
theorem d16_4 : DC c16 4 (.aload_n 0) 1 := by decide +kernel
theorem d16_5 : DC c16 5 (.iconst 0) 1 := by decide +kernel
theorem d16_6 : DC c16 6 (.putfield 7) 3 := by decide +kernel
abbrev cC21 : String := "java/util/ArrayList"
abbrev cC22 : String := "java/util/AbstractList"
theorem d16_9 : DC c16 9 (.return_) 1 := by decide +kernel
abbrev yM13 : MethodName := ⟨cC22, "<init>", "()V"⟩
theorem pn16 : plainName "java/util/AbstractList" = true := by first | (simp [plainName, overriddenIn]; done) | decide +kernel
theorem d15_4 : DC c15 4 (.aload_n 0) 1 := by decide +kernel
theorem d15_5 : DC c15 5 (.getstatic 39) 3 := by decide +kernel
theorem d15_8 : DC c15 8 (.putfield 9) 3 := by decide +kernel
theorem d15_11 : DC c15 11 (.return_) 1 := by decide +kernel
abbrev yM14 : MethodName := ⟨cC21, "<init>", "()V"⟩
theorem pn15 : plainName "java/util/ArrayList" = true := by first | (simp [plainName, overriddenIn]; done) | decide +kernel
theorem d14_7 : DC c14 7 (.astore_n 2) 1 := by decide +kernel
theorem d14_8 : DC c14 8 (.aload_n 0) 1 := by decide +kernel
theorem d14_9 : DC c14 9 (.getfield 22) 3 := by decide +kernel
theorem d14_12 : DC c14 12 (.ifnull 14) 3 := by decide +kernel
theorem d14_26 : DC c14 26 (.iconst 1) 1 := by decide +kernel
theorem d14_27 : DC c14 27 (.istore_n 3) 1 := by decide +kernel
theorem d14_28 : DC c14 28 (.iconst 0) 1 := by decide +kernel
theorem d14_29 : DC c14 29 (.istore 4) 2 := by decide +kernel
theorem d14_31 : DC c14 31 (.aload_n 0) 1 := by decide +kernel
theorem d14_32 : DC c14 32 (.getfield 61) 3 := by decide +kernel
theorem d14_35 : DC c14 35 (.ifnull 101) 3 := by decide +kernel
theorem d14_136 : DC c14 136 (.aload_n 2) 1 := by decide +kernel
theorem d14_137 : DC c14 137 (.areturn) 1 := by decide +kernel
abbrev cC23 : String := "java/util/List"
abbrev yM15 : MethodName := ⟨cC8, "inTheWay", "(Lcom/example/acidb/acidb/engine/LockedRow$Request;)Ljava/util/List;"⟩
theorem pd9 : parseMethodDescriptor "(Lcom/example/acidb/acidb/engine/LockedRow$Request;)Ljava/util/List;" = some ⟨[(.object "com/example/acidb/acidb/engine/LockedRow$Request")], some (.object "java/util/List")⟩ := by decide +kernel
theorem d13_5 : DC c13 5 (.invokeinterface 135 1) 5 := by decide +kernel
abbrev c18 := jdk_38_method_9_code
theorem d18_0 : DC c18 0 (.aload_n 0) 1 := by decide +kernel
theorem d18_1 : DC c18 1 (.getfield 48) 3 := by decide +kernel
theorem d18_4 : DC c18 4 (.ifCond .ne 7) 3 := by decide +kernel
theorem d18_7 : DC c18 7 (.iconst 1) 1 := by decide +kernel
theorem d18_8 : DC c18 8 (.goto 4) 3 := by decide +kernel
theorem d18_12 : DC c18 12 (.ireturn) 1 := by decide +kernel
abbrev yM16 : MethodName := ⟨cC21, "isEmpty", "()Z"⟩
theorem d13_10 : DC c13 10 (.ireturn) 1 := by decide +kernel
abbrev yM17 : MethodName := ⟨cC8, "canGrant", "(Lcom/example/acidb/acidb/engine/LockedRow$Request;)Z"⟩
theorem pd10 : parseMethodDescriptor "(Lcom/example/acidb/acidb/engine/LockedRow$Request;)Z" = some ⟨[(.object "com/example/acidb/acidb/engine/LockedRow$Request")], some .boolean⟩ := by decide +kernel
theorem d9_60 : DC c9 60 (.ifCond .eq 11) 3 := by decide +kernel
theorem d9_63 : DC c9 63 (.aload_n 0) 1 := by decide +kernel
theorem d9_64 : DC c9 64 (.aload_n 3) 1 := by decide +kernel
theorem d9_65 : DC c9 65 (.invokevirtual 44) 3 := by decide +kernel
abbrev c19 := prog_36_method_17_code
theorem d19_0 : DC c19 0 (.aload_n 1) 1 := by decide +kernel
theorem d19_1 : DC c19 1 (.getfield 128) 3 := by decide +kernel
theorem d19_4 : DC c19 4 (.getstatic 153) 3 := by decide +kernel
theorem d19_7 : DC c19 7 (.if_acmp .ne 52) 3 := by decide +kernel
theorem d19_59 : DC c19 59 (.aload_n 0) 1 := by decide +kernel
theorem d19_60 : DC c19 60 (.getfield 61) 3 := by decide +kernel
theorem d19_63 : DC c19 63 (.ifnull 16) 3 := by decide +kernel
theorem d19_79 : DC c19 79 (.aload_n 0) 1 := by decide +kernel
theorem d19_80 : DC c19 80 (.invokevirtual 48) 3 := by decide +kernel
abbrev c20 := prog_36_method_20_code
theorem d20_0 : DC c20 0 (.aload_n 0) 1 := by decide +kernel
theorem d20_1 : DC c20 1 (.getfield 61) 3 := by decide +kernel
theorem d20_4 : DC c20 4 (.ifnonnull 15) 3 := by decide +kernel
theorem d20_7 : DC c20 7 (.aload_n 0) 1 := by decide +kernel
theorem d20_8 : DC c20 8 (.new 138) 3 := by decide +kernel
theorem d20_11 : DC c20 11 (.dup) 1 := by decide +kernel
theorem d20_12 : DC c20 12 (.iconst 2) 1 := by decide +kernel
theorem d20_13 : DC c20 13 (.invokespecial 163) 3 := by decide +kernel
abbrev c21 := jdk_38_method_1_code
theorem d21_0 : DC c21 0 (.aload_n 0) 1 := by decide +kernel
theorem d21_1 : DC c21 1 (.invokespecial 1) 3 := by decide +kernel
theorem d21_4 : DC c21 4 (.iload_n 1) 1 := by decide +kernel
theorem d21_5 : DC c21 5 (.ifCond .le 14) 3 := by decide +kernel
theorem d21_8 : DC c21 8 (.aload_n 0) 1 := by decide +kernel
theorem d21_9 : DC c21 9 (.iload_n 1) 1 := by decide +kernel
theorem d21_10 : DC c21 10 (.anewarray 7) 3 := by decide +kernel
theorem d21_13 : DC c21 13 (.putfield 9) 3 := by decide +kernel
theorem d21_16 : DC c21 16 (.goto 44) 3 := by decide +kernel
theorem d21_60 : DC c21 60 (.return_) 1 := by decide +kernel
abbrev cC24 : String := "java/lang/Object"
abbrev yM18 : MethodName := ⟨cC21, "<init>", "(I)V"⟩
theorem pd11 : parseMethodDescriptor "(I)V" = some ⟨[.int], none⟩ := by decide +kernel
theorem d20_16 : DC c20 16 (.putfield 61) 3 := by decide +kernel
theorem d20_19 : DC c20 19 (.aload_n 0) 1 := by decide +kernel
theorem d20_20 : DC c20 20 (.getfield 61) 3 := by decide +kernel
theorem d20_23 : DC c20 23 (.areturn) 1 := by decide +kernel
abbrev yM19 : MethodName := ⟨cC8, "others", "()Ljava/util/List;"⟩
theorem pd12 : parseMethodDescriptor "()Ljava/util/List;" = some ⟨[], some (.object "java/util/List")⟩ := by decide +kernel
theorem d19_83 : DC c19 83 (.aload_n 1) 1 := by decide +kernel
theorem d19_84 : DC c19 84 (.invokeinterface 52 2) 5 := by decide +kernel
abbrev c22 := jdk_38_method_25_code
theorem d22_0 : DC c22 0 (.aload_n 0) 1 := by decide +kernel
theorem d22_1 : DC c22 1 (.dup) 1 := by decide +kernel
theorem d22_2 : DC c22 2 (.getfield 63) 3 := by decide +kernel
theorem d22_5 : DC c22 5 (.iconst 1) 1 := by decide +kernel
theorem d22_6 : DC c22 6 (.iadd) 1 := by decide +kernel
theorem d22_7 : DC c22 7 (.putfield 63) 3 := by decide +kernel
theorem d22_10 : DC c22 10 (.aload_n 0) 1 := by decide +kernel
theorem d22_11 : DC c22 11 (.aload_n 1) 1 := by decide +kernel
theorem d22_12 : DC c22 12 (.aload_n 0) 1 := by decide +kernel
theorem d22_13 : DC c22 13 (.getfield 9) 3 := by decide +kernel
theorem d22_16 : DC c22 16 (.aload_n 0) 1 := by decide +kernel
theorem d22_17 : DC c22 17 (.getfield 48) 3 := by decide +kernel
theorem d22_20 : DC c22 20 (.invokevirtual 131) 3 := by decide +kernel
abbrev c23 := jdk_38_method_24_code
theorem d23_0 : DC c23 0 (.iload_n 3) 1 := by decide +kernel
theorem d23_1 : DC c23 1 (.aload_n 2) 1 := by decide +kernel
theorem d23_2 : DC c23 2 (.arraylength) 1 := by decide +kernel
theorem d23_3 : DC c23 3 (.if_icmp .ne 8) 3 := by decide +kernel
theorem d23_11 : DC c23 11 (.aload_n 2) 1 := by decide +kernel
theorem d23_12 : DC c23 12 (.iload_n 3) 1 := by decide +kernel
theorem d23_13 : DC c23 13 (.aload_n 1) 1 := by decide +kernel
theorem d23_14 : DC c23 14 (.aastore) 1 := by decide +kernel
theorem d23_15 : DC c23 15 (.aload_n 0) 1 := by decide +kernel
theorem d23_16 : DC c23 16 (.iload_n 3) 1 := by decide +kernel
theorem d23_17 : DC c23 17 (.iconst 1) 1 := by decide +kernel
theorem d23_18 : DC c23 18 (.iadd) 1 := by decide +kernel
theorem d23_19 : DC c23 19 (.putfield 48) 3 := by decide +kernel
theorem d23_22 : DC c23 22 (.return_) 1 := by decide +kernel
abbrev yM20 : MethodName := ⟨cC21, "add", "(Ljava/lang/Object;[Ljava/lang/Object;I)V"⟩
theorem pd13 : parseMethodDescriptor "(Ljava/lang/Object;[Ljava/lang/Object;I)V" = some ⟨[(.object "java/lang/Object"), (.array (.object "java/lang/Object")), .int], none⟩ := by decide +kernel
theorem d22_23 : DC c22 23 (.iconst 1) 1 := by decide +kernel
theorem d22_24 : DC c22 24 (.ireturn) 1 := by decide +kernel
abbrev yM21 : MethodName := ⟨cC21, "add", "(Ljava/lang/Object;)Z"⟩
theorem pd14 : parseMethodDescriptor "(Ljava/lang/Object;)Z" = some ⟨[(.object "java/lang/Object")], some .boolean⟩ := by decide +kernel
theorem d19_89 : DC c19 89 (.pop) 1 := by decide +kernel
theorem d19_90 : DC c19 90 (.aload_n 1) 1 := by decide +kernel
theorem d19_91 : DC c19 91 (.iconst 1) 1 := by decide +kernel
theorem d19_92 : DC c19 92 (.putfield 36) 3 := by decide +kernel
theorem d19_95 : DC c19 95 (.return_) 1 := by decide +kernel
abbrev yM22 : MethodName := ⟨cC8, "grant", "(Lcom/example/acidb/acidb/engine/LockedRow$Request;)V"⟩
theorem pd15 : parseMethodDescriptor "(Lcom/example/acidb/acidb/engine/LockedRow$Request;)V" = some ⟨[(.object "com/example/acidb/acidb/engine/LockedRow$Request")], none⟩ := by decide +kernel
theorem d9_68 : DC c9 68 (.goto 14) 3 := by decide +kernel
theorem d9_82 : DC c9 82 (.aload_n 0) 1 := by decide +kernel
theorem d9_83 : DC c9 83 (.invokevirtual 58) 3 := by decide +kernel
abbrev c24 := prog_36_method_19_code
theorem d24_0 : DC c24 0 (.aload_n 0) 1 := by decide +kernel
theorem d24_1 : DC c24 1 (.getfield 61) 3 := by decide +kernel
theorem d24_4 : DC c24 4 (.ifnull 20) 3 := by decide +kernel
theorem d24_7 : DC c24 7 (.aload_n 0) 1 := by decide +kernel
theorem d24_8 : DC c24 8 (.getfield 61) 3 := by decide +kernel
theorem d24_11 : DC c24 11 (.invokeinterface 135 1) 5 := by decide +kernel
theorem d18_11 : DC c18 11 (.iconst 0) 1 := by decide +kernel
theorem d24_16 : DC c24 16 (.ifCond .eq 8) 3 := by decide +kernel
theorem d24_24 : DC c24 24 (.return_) 1 := by decide +kernel
abbrev yM23 : MethodName := ⟨cC8, "tidy", "()V"⟩
theorem d9_86 : DC c9 86 (.aload_n 3) 1 := by decide +kernel
theorem d9_87 : DC c9 87 (.areturn) 1 := by decide +kernel
abbrev yM24 : MethodName := ⟨cC8, "request", "(Lcom/example/acidb/acidb/engine/Transaction;Lcom/example/acidb/acidb/sql/LockMode;)Lcom/example/acidb/acidb/engine/LockedRow$Request;"⟩
theorem pd16 : parseMethodDescriptor "(Lcom/example/acidb/acidb/engine/Transaction;Lcom/example/acidb/acidb/sql/LockMode;)Lcom/example/acidb/acidb/engine/LockedRow$Request;" = some ⟨[(.object "com/example/acidb/acidb/engine/Transaction"), (.object "com/example/acidb/acidb/sql/LockMode")], some (.object "com/example/acidb/acidb/engine/LockedRow$Request")⟩ := by decide +kernel
theorem d8_18 : DC c8 18 (.iconst 0) 1 := by decide +kernel
abbrev c25 := prog_36_method_5_code
theorem d25_0 : DC c25 0 (.aload_n 0) 1 := by decide +kernel
theorem d25_1 : DC c25 1 (.getfield 22) 3 := by decide +kernel
theorem d25_4 : DC c25 4 (.aload_n 1) 1 := by decide +kernel
theorem d25_5 : DC c25 5 (.if_acmp .ne 13) 3 := by decide +kernel
theorem d25_18 : DC c25 18 (.aload_n 0) 1 := by decide +kernel
theorem d25_19 : DC c25 19 (.aload_n 1) 1 := by decide +kernel
theorem d25_20 : DC c25 20 (.invokevirtual 32) 3 := by decide +kernel
theorem d11_9 : DC c11 9 (.aload_n 0) 1 := by decide +kernel
theorem d11_10 : DC c11 10 (.getfield 61) 3 := by decide +kernel
theorem d11_13 : DC c11 13 (.invokeinterface 112 1) 5 := by decide +kernel
abbrev c26 := jdk_38_method_55_code
theorem d26_0 : DC c26 0 (.new 267) 3 := by decide +kernel
theorem d26_3 : DC c26 3 (.dup) 1 := by decide +kernel
theorem d26_4 : DC c26 4 (.aload_n 0) 1 := by decide +kernel
theorem d26_5 : DC c26 5 (.invokespecial 269) 3 := by decide +kernel
abbrev c27 := jdk_49_method_1_code
theorem d27_0 : DC c27 0 (.aload_n 0) 1 := by decide +kernel
theorem d27_1 : DC c27 1 (.aload_n 1) 1 := by decide +kernel
theorem d27_2 : DC c27 2 (.putfield 1) 3 := by decide +kernel
abbrev cC25 : String := "java/util/ArrayList$Itr"
abbrev cC26 : String := "Ljava/util/ArrayList;"
theorem d27_5 : DC c27 5 (.aload_n 0) 1 := by decide +kernel
theorem d27_6 : DC c27 6 (.invokespecial 7) 3 := by decide +kernel
theorem d27_9 : DC c27 9 (.aload_n 0) 1 := by decide +kernel
theorem d27_10 : DC c27 10 (.iconst (-1)) 1 := by decide +kernel
theorem d27_11 : DC c27 11 (.putfield 13) 3 := by decide +kernel
theorem d27_14 : DC c27 14 (.aload_n 0) 1 := by decide +kernel
theorem d27_15 : DC c27 15 (.aload_n 0) 1 := by decide +kernel
theorem d27_16 : DC c27 16 (.getfield 1) 3 := by decide +kernel
theorem d27_19 : DC c27 19 (.getfield 17) 3 := by decide +kernel
theorem d27_22 : DC c27 22 (.putfield 22) 3 := by decide +kernel
theorem d27_25 : DC c27 25 (.return_) 1 := by decide +kernel
abbrev yM25 : MethodName := ⟨cC25, "<init>", "(Ljava/util/ArrayList;)V"⟩
theorem pn27 : plainName "java/util/ArrayList$Itr" = true := by first | (simp [plainName, overriddenIn]; done) | decide +kernel
theorem pd17 : parseMethodDescriptor "(Ljava/util/ArrayList;)V" = some ⟨[(.object "java/util/ArrayList")], none⟩ := by decide +kernel
theorem d26_8 : DC c26 8 (.areturn) 1 := by decide +kernel
abbrev cC27 : String := "java/util/Iterator"
abbrev yM26 : MethodName := ⟨cC21, "iterator", "()Ljava/util/Iterator;"⟩
theorem pd18 : parseMethodDescriptor "()Ljava/util/Iterator;" = some ⟨[], some (.object "java/util/Iterator")⟩ := by decide +kernel
theorem d11_18 : DC c11 18 (.astore_n 3) 1 := by decide +kernel
theorem d11_19 : DC c11 19 (.aload_n 3) 1 := by decide +kernel
theorem d11_20 : DC c11 20 (.invokeinterface 116 1) 5 := by decide +kernel
abbrev c28 := jdk_49_method_2_code
theorem d28_0 : DC c28 0 (.aload_n 0) 1 := by decide +kernel
theorem d28_1 : DC c28 1 (.getfield 25) 3 := by decide +kernel
theorem d28_4 : DC c28 4 (.aload_n 0) 1 := by decide +kernel
theorem d28_5 : DC c28 5 (.getfield 1) 3 := by decide +kernel
theorem d28_8 : DC c28 8 (.getfield 28) 3 := by decide +kernel
theorem d28_11 : DC c28 11 (.if_icmp .eq 7) 3 := by decide +kernel
theorem d28_14 : DC c28 14 (.iconst 1) 1 := by decide +kernel
theorem d28_15 : DC c28 15 (.goto 4) 3 := by decide +kernel
theorem d28_19 : DC c28 19 (.ireturn) 1 := by decide +kernel
abbrev yM27 : MethodName := ⟨cC25, "hasNext", "()Z"⟩
theorem d11_25 : DC c11 25 (.ifCond .eq 48) 3 := by decide +kernel
theorem d11_28 : DC c11 28 (.aload_n 3) 1 := by decide +kernel
theorem d11_29 : DC c11 29 (.invokeinterface 121 1) 5 := by decide +kernel
abbrev c29 := jdk_49_method_3_code
theorem d29_0 : DC c29 0 (.aload_n 0) 1 := by decide +kernel
theorem d29_1 : DC c29 1 (.invokevirtual 31) 3 := by decide +kernel
abbrev c30 := jdk_49_method_6_code
theorem d30_0 : DC c30 0 (.aload_n 0) 1 := by decide +kernel
theorem d30_1 : DC c30 1 (.getfield 1) 3 := by decide +kernel
theorem d30_4 : DC c30 4 (.getfield 17) 3 := by decide +kernel
theorem d30_7 : DC c30 7 (.aload_n 0) 1 := by decide +kernel
theorem d30_8 : DC c30 8 (.getfield 22) 3 := by decide +kernel
theorem d30_11 : DC c30 11 (.if_icmp .eq 11) 3 := by decide +kernel
theorem d30_22 : DC c30 22 (.return_) 1 := by decide +kernel
abbrev yM28 : MethodName := ⟨cC25, "checkForComodification", "()V"⟩
theorem d29_4 : DC c29 4 (.aload_n 0) 1 := by decide +kernel
theorem d29_5 : DC c29 5 (.getfield 25) 3 := by decide +kernel
theorem d29_8 : DC c29 8 (.istore_n 1) 1 := by decide +kernel
theorem d29_9 : DC c29 9 (.iload_n 1) 1 := by decide +kernel
theorem d29_10 : DC c29 10 (.aload_n 0) 1 := by decide +kernel
theorem d29_11 : DC c29 11 (.getfield 1) 3 := by decide +kernel
theorem d29_14 : DC c29 14 (.getfield 28) 3 := by decide +kernel
theorem d29_17 : DC c29 17 (.if_icmp .lt 11) 3 := by decide +kernel
theorem d29_28 : DC c29 28 (.aload_n 0) 1 := by decide +kernel
theorem d29_29 : DC c29 29 (.getfield 1) 3 := by decide +kernel
theorem d29_32 : DC c29 32 (.getfield 37) 3 := by decide +kernel
theorem d29_35 : DC c29 35 (.astore_n 2) 1 := by decide +kernel
theorem d29_36 : DC c29 36 (.iload_n 1) 1 := by decide +kernel
theorem d29_37 : DC c29 37 (.aload_n 2) 1 := by decide +kernel
theorem d29_38 : DC c29 38 (.arraylength) 1 := by decide +kernel
theorem d29_39 : DC c29 39 (.if_icmp .lt 11) 3 := by decide +kernel
theorem d29_50 : DC c29 50 (.aload_n 0) 1 := by decide +kernel
theorem d29_51 : DC c29 51 (.iload_n 1) 1 := by decide +kernel
theorem d29_52 : DC c29 52 (.iconst 1) 1 := by decide +kernel
theorem d29_53 : DC c29 53 (.iadd) 1 := by decide +kernel
theorem d29_54 : DC c29 54 (.putfield 25) 3 := by decide +kernel
theorem d29_57 : DC c29 57 (.aload_n 2) 1 := by decide +kernel
theorem d29_58 : DC c29 58 (.aload_n 0) 1 := by decide +kernel
theorem d29_59 : DC c29 59 (.iload_n 1) 1 := by decide +kernel
theorem d29_60 : DC c29 60 (.dup_x1) 1 := by decide +kernel
theorem d29_61 : DC c29 61 (.putfield 13) 3 := by decide +kernel
theorem d29_64 : DC c29 64 (.aaload) 1 := by decide +kernel
theorem d29_65 : DC c29 65 (.areturn) 1 := by decide +kernel
abbrev yM29 : MethodName := ⟨cC25, "next", "()Ljava/lang/Object;"⟩
theorem pd19 : parseMethodDescriptor "()Ljava/lang/Object;" = some ⟨[], some (.object "java/lang/Object")⟩ := by decide +kernel
theorem d11_34 : DC c11 34 (.checkcast 13) 3 := by decide +kernel
theorem d11_37 : DC c11 37 (.astore 4) 2 := by decide +kernel
theorem d11_39 : DC c11 39 (.aload 4) 2 := by decide +kernel
theorem d11_41 : DC c11 41 (.getfield 36) 3 := by decide +kernel
theorem d11_44 : DC c11 44 (.ifCond .eq 26) 3 := by decide +kernel
theorem d11_47 : DC c11 47 (.aload 4) 2 := by decide +kernel
theorem d11_49 : DC c11 49 (.getfield 125) 3 := by decide +kernel
theorem d11_52 : DC c11 52 (.aload_n 1) 1 := by decide +kernel
theorem d11_53 : DC c11 53 (.if_acmp .ne 17) 3 := by decide +kernel
theorem d11_70 : DC c11 70 (.goto (-51)) 3 := by decide +kernel
theorem d28_18 : DC c28 18 (.iconst 0) 1 := by decide +kernel
theorem d25_23 : DC c25 23 (.astore_n 2) 1 := by decide +kernel
theorem d25_24 : DC c25 24 (.aload_n 2) 1 := by decide +kernel
theorem d25_25 : DC c25 25 (.ifnull 14) 3 := by decide +kernel
theorem d25_39 : DC c25 39 (.aload_n 0) 1 := by decide +kernel
theorem d25_40 : DC c25 40 (.invokevirtual 67) 3 := by decide +kernel
abbrev c31 := prog_36_method_18_code
theorem d31_0 : DC c31 0 (.iconst 0) 1 := by decide +kernel
theorem d31_1 : DC c31 1 (.istore_n 1) 1 := by decide +kernel
theorem d31_2 : DC c31 2 (.aload_n 0) 1 := by decide +kernel
theorem d31_3 : DC c31 3 (.getfield 61) 3 := by decide +kernel
theorem d31_6 : DC c31 6 (.ifnull 60) 3 := by decide +kernel
theorem d31_9 : DC c31 9 (.aload_n 0) 1 := by decide +kernel
theorem d31_10 : DC c31 10 (.getfield 61) 3 := by decide +kernel
theorem d31_13 : DC c31 13 (.invokestatic 159) 3 := by decide +kernel
abbrev c32 := jdk_40_method_48_code
theorem d32_0 : DC c32 0 (.aload_n 0) 1 := by decide +kernel
theorem d32_1 : DC c32 1 (.invokestatic 112) 3 := by decide +kernel
abbrev c33 := jdk_56_method_3_code
theorem d33_0 : DC c33 0 (.aload_n 0) 1 := by decide +kernel
theorem d33_1 : DC c33 1 (.instanceof 10) 3 := by decide +kernel
theorem d33_4 : DC c33 4 (.ifCond .ne 22) 3 := by decide +kernel
theorem d33_7 : DC c33 7 (.aload_n 0) 1 := by decide +kernel
theorem d33_8 : DC c33 8 (.instanceof 12) 3 := by decide +kernel
abbrev yM30 : MethodName := ⟨cC0, "size", "()I"⟩
theorem d33_11 : DC c33 11 (.ifCond .eq 20) 3 := by decide +kernel
theorem d33_31 : DC c33 31 (.aload_n 0) 1 := by decide +kernel
theorem d33_32 : DC c33 32 (.invokeinterface 20 1) 5 := by decide +kernel
theorem d33_37 : DC c33 37 (.ifCond .eq 7) 3 := by decide +kernel
theorem d33_44 : DC c33 44 (.aload_n 0) 1 := by decide +kernel
theorem d33_45 : DC c33 45 (.invokeinterface 30 1) 5 := by decide +kernel
abbrev c34 := jdk_38_method_16_code
theorem d34_0 : DC c34 0 (.aload_n 0) 1 := by decide +kernel
theorem d34_1 : DC c34 1 (.getfield 9) 3 := by decide +kernel
theorem d34_4 : DC c34 4 (.aload_n 0) 1 := by decide +kernel
theorem d34_5 : DC c34 5 (.getfield 48) 3 := by decide +kernel
theorem d34_8 : DC c34 8 (.invokestatic 66) 3 := by decide +kernel
abbrev c35 := jdk_65_method_119_code
theorem d35_0 : DC c35 0 (.aload_n 0) 1 := by decide +kernel
theorem d35_1 : DC c35 1 (.iload_n 1) 1 := by decide +kernel
theorem d35_2 : DC c35 2 (.aload_n 0) 1 := by decide +kernel
theorem d35_3 : DC c35 3 (.invokevirtual 86) 3 := by decide +kernel
theorem d35_6 : DC c35 6 (.invokestatic 300) 3 := by decide +kernel
abbrev c36 := jdk_65_method_120_code
theorem d36_0 : DC c36 0 (.aload_n 2) 1 := by decide +kernel
theorem d36_1 : DC c36 1 (.ldc 110) 2 := by decide +kernel
theorem d36_3 : DC c36 3 (.if_acmp .ne 10) 3 := by decide +kernel
theorem d36_6 : DC c36 6 (.iload_n 1) 1 := by decide +kernel
theorem d36_7 : DC c36 7 (.anewarray 2) 3 := by decide +kernel
theorem d36_10 : DC c36 10 (.goto 14) 3 := by decide +kernel
theorem d36_24 : DC c36 24 (.astore_n 3) 1 := by decide +kernel
theorem d36_25 : DC c36 25 (.aload_n 0) 1 := by decide +kernel
theorem d36_26 : DC c36 26 (.iconst 0) 1 := by decide +kernel
theorem d36_27 : DC c36 27 (.aload_n 3) 1 := by decide +kernel
theorem d36_28 : DC c36 28 (.iconst 0) 1 := by decide +kernel
theorem d36_29 : DC c36 29 (.aload_n 0) 1 := by decide +kernel
theorem d36_30 : DC c36 30 (.arraylength) 1 := by decide +kernel
theorem d36_31 : DC c36 31 (.iload_n 1) 1 := by decide +kernel
theorem d36_32 : DC c36 32 (.invokestatic 304) 3 := by decide +kernel
abbrev c37 := jdk_29_method_69_code
theorem d37_0 : DC c37 0 (.iload_n 0) 1 := by decide +kernel
theorem d37_1 : DC c37 1 (.iload_n 1) 1 := by decide +kernel
theorem d37_2 : DC c37 2 (.if_icmp .gt 7) 3 := by decide +kernel
theorem d37_9 : DC c37 9 (.iload_n 1) 1 := by decide +kernel
theorem d37_10 : DC c37 10 (.ireturn) 1 := by decide +kernel
abbrev cC28 : String := "java/lang/Math"
abbrev yM31 : MethodName := ⟨cC28, "min", "(II)I"⟩
theorem pd20 : parseMethodDescriptor "(II)I" = some ⟨[.int, .int], some .int⟩ := by decide +kernel
theorem d36_35 : DC c36 35 (.invokestatic 150) 3 := by decide +kernel
theorem d36_38 : DC c36 38 (.aload_n 3) 1 := by decide +kernel
theorem d36_39 : DC c36 39 (.areturn) 1 := by decide +kernel
abbrev cC29 : String := "java/util/Arrays"
abbrev yM32 : MethodName := ⟨cC29, "copyOf", "([Ljava/lang/Object;ILjava/lang/Class;)[Ljava/lang/Object;"⟩
theorem pn35 : plainName "java/util/Arrays" = true := by first | (simp [plainName, overriddenIn]; done) | decide +kernel
theorem pd21 : parseMethodDescriptor "([Ljava/lang/Object;ILjava/lang/Class;)[Ljava/lang/Object;" = some ⟨[(.array (.object "java/lang/Object")), .int, (.object "java/lang/Class")], some (.array (.object "java/lang/Object"))⟩ := by decide +kernel
theorem d35_9 : DC c35 9 (.areturn) 1 := by decide +kernel
abbrev yM33 : MethodName := ⟨cC29, "copyOf", "([Ljava/lang/Object;I)[Ljava/lang/Object;"⟩
theorem pd22 : parseMethodDescriptor "([Ljava/lang/Object;I)[Ljava/lang/Object;" = some ⟨[(.array (.object "java/lang/Object")), .int], some (.array (.object "java/lang/Object"))⟩ := by decide +kernel
theorem d34_11 : DC c34 11 (.areturn) 1 := by decide +kernel
abbrev yM34 : MethodName := ⟨cC21, "toArray", "()[Ljava/lang/Object;"⟩
theorem pd23 : parseMethodDescriptor "()[Ljava/lang/Object;" = some ⟨[], some (.array (.object "java/lang/Object"))⟩ := by decide +kernel
theorem d33_50 : DC c33 50 (.invokestatic 34) 3 := by decide +kernel
abbrev c38 := jdk_40_method_47_code
theorem d38_0 : DC c38 0 (.aload_n 0) 1 := by decide +kernel
theorem d38_1 : DC c38 1 (.arraylength) 1 := by decide +kernel
theorem d38_2 : DC c38 2 (.tableswitch 57 0 2 #[26, 32, 43]) 26 := by decide +kernel
theorem d38_34 : DC c38 34 (.new 96) 3 := by decide +kernel
theorem d38_37 : DC c38 37 (.dup) 1 := by decide +kernel
theorem d38_38 : DC c38 38 (.aload_n 0) 1 := by decide +kernel
theorem d38_39 : DC c38 39 (.iconst 0) 1 := by decide +kernel
theorem d38_40 : DC c38 40 (.aaload) 1 := by decide +kernel
theorem d38_41 : DC c38 41 (.invokespecial 98) 3 := by decide +kernel
abbrev c39 := jdk_44_method_1_code
theorem d39_0 : DC c39 0 (.aload_n 0) 1 := by decide +kernel
theorem d39_1 : DC c39 1 (.invokespecial 1) 3 := by decide +kernel
abbrev c40 := jdk_46_method_1_code
theorem d40_0 : DC c40 0 (.aload_n 0) 1 := by decide +kernel
theorem d40_1 : DC c40 1 (.invokespecial 1) 3 := by decide +kernel
abbrev c41 := jdk_47_method_1_code
theorem d41_0 : DC c41 0 (.aload_n 0) 1 := by decide +kernel
theorem d41_1 : DC c41 1 (.invokespecial 1) 3 := by decide +kernel
theorem d41_4 : DC c41 4 (.return_) 1 := by decide +kernel
abbrev cC30 : String := "java/util/ImmutableCollections$AbstractImmutableCollection"
abbrev yM35 : MethodName := ⟨cC30, "<init>", "()V"⟩
theorem pn41 : plainName "java/util/ImmutableCollections$AbstractImmutableCollection" = true := by first | (simp [plainName, overriddenIn]; done) | decide +kernel
theorem d40_4 : DC c40 4 (.return_) 1 := by decide +kernel
abbrev cC31 : String := "java/util/ImmutableCollections$AbstractImmutableList"
abbrev yM36 : MethodName := ⟨cC31, "<init>", "()V"⟩
theorem pn40 : plainName "java/util/ImmutableCollections$AbstractImmutableList" = true := by first | (simp [plainName, overriddenIn]; done) | decide +kernel
theorem d39_4 : DC c39 4 (.aload_n 0) 1 := by decide +kernel
theorem d39_5 : DC c39 5 (.aload_n 1) 1 := by decide +kernel
theorem d39_6 : DC c39 6 (.invokestatic 7) 3 := by decide +kernel
abbrev c42 := jdk_31_method_10_code
theorem d42_0 : DC c42 0 (.aload_n 0) 1 := by decide +kernel
theorem d42_1 : DC c42 1 (.ifnonnull 11) 3 := by decide +kernel
theorem d42_12 : DC c42 12 (.aload_n 0) 1 := by decide +kernel
theorem d42_13 : DC c42 13 (.areturn) 1 := by decide +kernel
abbrev cC32 : String := "java/util/Objects"
abbrev yM37 : MethodName := ⟨cC32, "requireNonNull", "(Ljava/lang/Object;)Ljava/lang/Object;"⟩
theorem pn42 : plainName "java/util/Objects" = true := by first | (simp [plainName, overriddenIn]; done) | decide +kernel
theorem pd24 : parseMethodDescriptor "(Ljava/lang/Object;)Ljava/lang/Object;" = some ⟨[(.object "java/lang/Object")], some (.object "java/lang/Object")⟩ := by decide +kernel
theorem d39_9 : DC c39 9 (.putfield 13) 3 := by decide +kernel
abbrev cC33 : String := "java/util/ImmutableCollections$List12"
theorem d39_12 : DC c39 12 (.aload_n 0) 1 := by decide +kernel
theorem d39_13 : DC c39 13 (.getstatic 19) 3 := by decide +kernel
abbrev cC34 : String := "java/util/ImmutableCollections"
theorem d39_16 : DC c39 16 (.putfield 24) 3 := by decide +kernel
theorem d39_19 : DC c39 19 (.return_) 1 := by decide +kernel
abbrev yM38 : MethodName := ⟨cC33, "<init>", "(Ljava/lang/Object;)V"⟩
theorem pn39 : plainName "java/util/ImmutableCollections$List12" = true := by first | (simp [plainName, overriddenIn]; done) | decide +kernel
theorem d38_44 : DC c38 44 (.areturn) 1 := by decide +kernel
abbrev yM39 : MethodName := ⟨cC23, "of", "([Ljava/lang/Object;)Ljava/util/List;"⟩
theorem pn32 : plainName "java/util/List" = true := by first | (simp [plainName, overriddenIn]; done) | decide +kernel
theorem pd25 : parseMethodDescriptor "([Ljava/lang/Object;)Ljava/util/List;" = some ⟨[(.array (.object "java/lang/Object"))], some (.object "java/util/List")⟩ := by decide +kernel
theorem d33_53 : DC c33 53 (.areturn) 1 := by decide +kernel
abbrev yM40 : MethodName := ⟨cC34, "listCopy", "(Ljava/util/Collection;)Ljava/util/List;"⟩
theorem pn33 : plainName "java/util/ImmutableCollections" = true := by first | (simp [plainName, overriddenIn]; done) | decide +kernel
theorem pd26 : parseMethodDescriptor "(Ljava/util/Collection;)Ljava/util/List;" = some ⟨[(.object "java/util/Collection")], some (.object "java/util/List")⟩ := by decide +kernel
theorem d32_4 : DC c32 4 (.areturn) 1 := by decide +kernel
abbrev yM41 : MethodName := ⟨cC23, "copyOf", "(Ljava/util/Collection;)Ljava/util/List;"⟩
theorem d31_16 : DC c31 16 (.invokeinterface 112 1) 5 := by decide +kernel
abbrev c43 := jdk_46_method_10_code
theorem d43_0 : DC c43 0 (.new 61) 3 := by decide +kernel
theorem d43_3 : DC c43 3 (.dup) 1 := by decide +kernel
theorem d43_4 : DC c43 4 (.aload_n 0) 1 := by decide +kernel
theorem d43_5 : DC c43 5 (.aload_n 0) 1 := by decide +kernel
theorem d43_6 : DC c43 6 (.invokevirtual 13) 3 := by decide +kernel
abbrev c44 := jdk_44_method_3_code
theorem d44_0 : DC c44 0 (.aload_n 0) 1 := by decide +kernel
theorem d44_1 : DC c44 1 (.getfield 24) 3 := by decide +kernel
theorem d44_4 : DC c44 4 (.getstatic 19) 3 := by decide +kernel
theorem d44_7 : DC c44 7 (.if_acmp .eq 7) 3 := by decide +kernel
theorem d44_14 : DC c44 14 (.iconst 1) 1 := by decide +kernel
theorem d44_15 : DC c44 15 (.ireturn) 1 := by decide +kernel
abbrev yM42 : MethodName := ⟨cC33, "size", "()I"⟩
theorem pd27 : parseMethodDescriptor "()I" = some ⟨[], some .int⟩ := by decide +kernel
theorem d43_9 : DC c43 9 (.invokespecial 63) 3 := by decide +kernel
abbrev c45 := jdk_53_method_1_code
theorem d45_0 : DC c45 0 (.aload_n 0) 1 := by decide +kernel
theorem d45_1 : DC c45 1 (.invokespecial 1) 3 := by decide +kernel
theorem d45_4 : DC c45 4 (.aload_n 0) 1 := by decide +kernel
theorem d45_5 : DC c45 5 (.aload_n 1) 1 := by decide +kernel
theorem d45_6 : DC c45 6 (.putfield 7) 3 := by decide +kernel
abbrev cC35 : String := "java/util/ImmutableCollections$ListItr"
theorem d45_9 : DC c45 9 (.aload_n 0) 1 := by decide +kernel
theorem d45_10 : DC c45 10 (.iload_n 2) 1 := by decide +kernel
theorem d45_11 : DC c45 11 (.putfield 13) 3 := by decide +kernel
theorem d45_14 : DC c45 14 (.aload_n 0) 1 := by decide +kernel
theorem d45_15 : DC c45 15 (.iconst 0) 1 := by decide +kernel
theorem d45_16 : DC c45 16 (.putfield 17) 3 := by decide +kernel
theorem d45_19 : DC c45 19 (.aload_n 0) 1 := by decide +kernel
theorem d45_20 : DC c45 20 (.iconst 0) 1 := by decide +kernel
theorem d45_21 : DC c45 21 (.putfield 20) 3 := by decide +kernel
theorem d45_24 : DC c45 24 (.return_) 1 := by decide +kernel
abbrev yM43 : MethodName := ⟨cC35, "<init>", "(Ljava/util/List;I)V"⟩
theorem pn45 : plainName "java/util/ImmutableCollections$ListItr" = true := by first | (simp [plainName, overriddenIn]; done) | decide +kernel
theorem pd28 : parseMethodDescriptor "(Ljava/util/List;I)V" = some ⟨[(.object "java/util/List"), .int], none⟩ := by decide +kernel
theorem d43_12 : DC c43 12 (.areturn) 1 := by decide +kernel
abbrev yM44 : MethodName := ⟨cC31, "iterator", "()Ljava/util/Iterator;"⟩
theorem d31_21 : DC c31 21 (.astore_n 2) 1 := by decide +kernel
theorem d31_22 : DC c31 22 (.aload_n 2) 1 := by decide +kernel
theorem d31_23 : DC c31 23 (.invokeinterface 116 1) 5 := by decide +kernel
abbrev c46 := jdk_53_method_3_code
theorem d46_0 : DC c46 0 (.aload_n 0) 1 := by decide +kernel
theorem d46_1 : DC c46 1 (.getfield 17) 3 := by decide +kernel
theorem d46_4 : DC c46 4 (.aload_n 0) 1 := by decide +kernel
theorem d46_5 : DC c46 5 (.getfield 13) 3 := by decide +kernel
theorem d46_8 : DC c46 8 (.if_icmp .eq 7) 3 := by decide +kernel
theorem d46_11 : DC c46 11 (.iconst 1) 1 := by decide +kernel
theorem d46_12 : DC c46 12 (.goto 4) 3 := by decide +kernel
theorem d46_16 : DC c46 16 (.ireturn) 1 := by decide +kernel
abbrev yM45 : MethodName := ⟨cC35, "hasNext", "()Z"⟩
theorem d31_28 : DC c31 28 (.ifCond .eq 38) 3 := by decide +kernel
theorem d31_31 : DC c31 31 (.aload_n 2) 1 := by decide +kernel
theorem d31_32 : DC c31 32 (.invokeinterface 121 1) 5 := by decide +kernel
abbrev c47 := jdk_53_method_4_code
theorem d47_0 : DC c47 0 (.aload_n 0) 1 := by decide +kernel
theorem d47_1 : DC c47 1 (.getfield 17) 3 := by decide +kernel
theorem d47_4 : DC c47 4 (.istore_n 1) 1 := by decide +kernel
theorem d47_5 : DC c47 5 (.aload_n 0) 1 := by decide +kernel
theorem d47_6 : DC c47 6 (.getfield 7) 3 := by decide +kernel
theorem d47_9 : DC c47 9 (.iload_n 1) 1 := by decide +kernel
theorem d47_10 : DC c47 10 (.invokeinterface 24 2) 5 := by decide +kernel
abbrev c48 := jdk_44_method_5_code
theorem d48_0 : DC c48 0 (.iload_n 1) 1 := by decide +kernel
theorem d48_1 : DC c48 1 (.ifCond .ne 8) 3 := by decide +kernel
theorem d48_4 : DC c48 4 (.aload_n 0) 1 := by decide +kernel
theorem d48_5 : DC c48 5 (.getfield 13) 3 := by decide +kernel
theorem d48_8 : DC c48 8 (.areturn) 1 := by decide +kernel
abbrev yM46 : MethodName := ⟨cC33, "get", "(I)Ljava/lang/Object;"⟩
theorem pd29 : parseMethodDescriptor "(I)Ljava/lang/Object;" = some ⟨[.int], some (.object "java/lang/Object")⟩ := by decide +kernel
theorem d47_15 : DC c47 15 (.astore_n 2) 1 := by decide +kernel
theorem d47_16 : DC c47 16 (.aload_n 0) 1 := by decide +kernel
theorem d47_17 : DC c47 17 (.iload_n 1) 1 := by decide +kernel
theorem d47_18 : DC c47 18 (.iconst 1) 1 := by decide +kernel
theorem d47_19 : DC c47 19 (.iadd) 1 := by decide +kernel
theorem d47_20 : DC c47 20 (.putfield 17) 3 := by decide +kernel
theorem d47_23 : DC c47 23 (.aload_n 2) 1 := by decide +kernel
theorem d47_24 : DC c47 24 (.areturn) 1 := by decide +kernel
abbrev yM47 : MethodName := ⟨cC35, "next", "()Ljava/lang/Object;"⟩
theorem d31_37 : DC c31 37 (.checkcast 13) 3 := by decide +kernel
theorem d31_40 : DC c31 40 (.astore_n 3) 1 := by decide +kernel
theorem d31_41 : DC c31 41 (.aload_n 3) 1 := by decide +kernel
theorem d31_42 : DC c31 42 (.getfield 36) 3 := by decide +kernel
theorem d31_45 : DC c31 45 (.ifCond .ne 18) 3 := by decide +kernel
theorem d31_63 : DC c31 63 (.goto (-41)) 3 := by decide +kernel
theorem d46_15 : DC c46 15 (.iconst 0) 1 := by decide +kernel
theorem d31_66 : DC c31 66 (.aload_n 0) 1 := by decide +kernel
theorem d31_67 : DC c31 67 (.invokevirtual 58) 3 := by decide +kernel
theorem d31_70 : DC c31 70 (.iload_n 1) 1 := by decide +kernel
theorem d31_71 : DC c31 71 (.ireturn) 1 := by decide +kernel
abbrev yM48 : MethodName := ⟨cC8, "grantWaiting", "()Z"⟩
theorem d25_43 : DC c25 43 (.ireturn) 1 := by decide +kernel
abbrev yM49 : MethodName := ⟨cC8, "release", "(Lcom/example/acidb/acidb/engine/Transaction;)Z"⟩
theorem d11_56 : DC c11 56 (.aload 4) 2 := by decide +kernel
theorem d11_58 : DC c11 58 (.getfield 128) 3 := by decide +kernel
theorem d11_61 : DC c11 61 (.getstatic 26) 3 := by decide +kernel
theorem d11_64 : DC c11 64 (.if_acmp .ne 6) 3 := by decide +kernel
theorem d11_67 : DC c11 67 (.aload 4) 2 := by decide +kernel
theorem d11_69 : DC c11 69 (.astore_n 2) 1 := by decide +kernel
theorem d25_28 : DC c25 28 (.aload_n 0) 1 := by decide +kernel
theorem d25_29 : DC c25 29 (.getfield 61) 3 := by decide +kernel
theorem d25_32 : DC c25 32 (.aload_n 2) 1 := by decide +kernel
theorem d25_33 : DC c25 33 (.invokeinterface 64 2) 5 := by decide +kernel
abbrev c49 := jdk_38_method_38_code
theorem d49_0 : DC c49 0 (.aload_n 0) 1 := by decide +kernel
theorem d49_1 : DC c49 1 (.getfield 9) 3 := by decide +kernel
theorem d49_4 : DC c49 4 (.astore_n 2) 1 := by decide +kernel
theorem d49_5 : DC c49 5 (.aload_n 0) 1 := by decide +kernel
theorem d49_6 : DC c49 6 (.getfield 48) 3 := by decide +kernel
theorem d49_9 : DC c49 9 (.istore_n 3) 1 := by decide +kernel
theorem d49_10 : DC c49 10 (.iconst 0) 1 := by decide +kernel
theorem d49_11 : DC c49 11 (.istore 4) 2 := by decide +kernel
theorem d49_13 : DC c49 13 (.aload_n 1) 1 := by decide +kernel
theorem d49_14 : DC c49 14 (.ifnonnull 25) 3 := by decide +kernel
theorem d49_39 : DC c49 39 (.iload 4) 2 := by decide +kernel
theorem d49_41 : DC c49 41 (.iload_n 3) 1 := by decide +kernel
theorem d49_42 : DC c49 42 (.if_icmp .ge 23) 3 := by decide +kernel
theorem d49_45 : DC c49 45 (.aload_n 1) 1 := by decide +kernel
theorem d49_46 : DC c49 46 (.aload_n 2) 1 := by decide +kernel
theorem d49_47 : DC c49 47 (.iload 4) 2 := by decide +kernel
theorem d49_49 : DC c49 49 (.aaload) 1 := by decide +kernel
theorem d49_50 : DC c49 50 (.invokevirtual 93) 3 := by decide +kernel
theorem d49_53 : DC c49 53 (.ifCond .eq 6) 3 := by decide +kernel
theorem d49_56 : DC c49 56 (.goto 11) 3 := by decide +kernel
theorem d49_67 : DC c49 67 (.aload_n 0) 1 := by decide +kernel
theorem d49_68 : DC c49 68 (.aload_n 2) 1 := by decide +kernel
theorem d49_69 : DC c49 69 (.iload 4) 2 := by decide +kernel
theorem d49_71 : DC c49 71 (.invokevirtual 144) 3 := by decide +kernel
abbrev c51 := jdk_38_method_39_code
theorem d51_0 : DC c51 0 (.aload_n 0) 1 := by decide +kernel
theorem d51_1 : DC c51 1 (.dup) 1 := by decide +kernel
theorem d51_2 : DC c51 2 (.getfield 63) 3 := by decide +kernel
theorem d51_5 : DC c51 5 (.iconst 1) 1 := by decide +kernel
theorem d51_6 : DC c51 6 (.iadd) 1 := by decide +kernel
theorem d51_7 : DC c51 7 (.putfield 63) 3 := by decide +kernel
theorem d51_10 : DC c51 10 (.aload_n 0) 1 := by decide +kernel
theorem d51_11 : DC c51 11 (.getfield 48) 3 := by decide +kernel
theorem d51_14 : DC c51 14 (.iconst 1) 1 := by decide +kernel
theorem d51_15 : DC c51 15 (.isub) 1 := by decide +kernel
theorem d51_16 : DC c51 16 (.dup) 1 := by decide +kernel
theorem d51_17 : DC c51 17 (.istore_n 3) 1 := by decide +kernel
theorem d51_18 : DC c51 18 (.iload_n 2) 1 := by decide +kernel
theorem d51_19 : DC c51 19 (.if_icmp .le 15) 3 := by decide +kernel
theorem d51_34 : DC c51 34 (.aload_n 1) 1 := by decide +kernel
theorem d51_35 : DC c51 35 (.aload_n 0) 1 := by decide +kernel
theorem d51_36 : DC c51 36 (.iload_n 3) 1 := by decide +kernel
theorem d51_37 : DC c51 37 (.dup_x1) 1 := by decide +kernel
theorem d51_38 : DC c51 38 (.putfield 48) 3 := by decide +kernel
theorem d51_41 : DC c51 41 (.aconst_null) 1 := by decide +kernel
theorem d51_42 : DC c51 42 (.aastore) 1 := by decide +kernel
theorem d51_43 : DC c51 43 (.return_) 1 := by decide +kernel
abbrev yM50 : MethodName := ⟨cC21, "fastRemove", "([Ljava/lang/Object;I)V"⟩
theorem pd30 : parseMethodDescriptor "([Ljava/lang/Object;I)V" = some ⟨[(.array (.object "java/lang/Object")), .int], none⟩ := by decide +kernel
theorem d49_74 : DC c49 74 (.iconst 1) 1 := by decide +kernel
theorem d49_75 : DC c49 75 (.ireturn) 1 := by decide +kernel
abbrev yM51 : MethodName := ⟨cC21, "remove", "(Ljava/lang/Object;)Z"⟩
theorem d25_38 : DC c25 38 (.pop) 1 := by decide +kernel
theorem d33_40 : DC c33 40 (.invokestatic 26) 3 := by decide +kernel
abbrev c52 := jdk_40_method_36_code
theorem d52_0 : DC c52 0 (.getstatic 90) 3 := by decide +kernel
abbrev cC36 : String := "Ljava/util/ImmutableCollections$ListN;"
theorem d52_3 : DC c52 3 (.areturn) 1 := by decide +kernel
abbrev yM52 : MethodName := ⟨cC23, "of", "()Ljava/util/List;"⟩
theorem d33_43 : DC c33 43 (.areturn) 1 := by decide +kernel
abbrev c53 := jdk_45_method_3_code
theorem d53_0 : DC c53 0 (.aload_n 0) 1 := by decide +kernel
theorem d53_1 : DC c53 1 (.getfield 7) 3 := by decide +kernel
theorem d53_4 : DC c53 4 (.arraylength) 1 := by decide +kernel
theorem d53_5 : DC c53 5 (.ireturn) 1 := by decide +kernel
theorem pn53 : plainName "java/util/ImmutableCollections$ListN" = true := by first | (simp [plainName, overriddenIn]; done) | decide +kernel
theorem d24_19 : DC c24 19 (.aload_n 0) 1 := by decide +kernel
theorem d24_20 : DC c24 20 (.aconst_null) 1 := by decide +kernel
theorem d24_21 : DC c24 21 (.putfield 61) 3 := by decide +kernel
theorem d14_38 : DC c14 38 (.iload 4) 2 := by decide +kernel
theorem d14_40 : DC c14 40 (.aload_n 0) 1 := by decide +kernel
theorem d14_41 : DC c14 41 (.getfield 61) 3 := by decide +kernel
theorem d14_44 : DC c14 44 (.invokeinterface 141 1) 5 := by decide +kernel
abbrev c56 := jdk_38_method_8_code
theorem d56_0 : DC c56 0 (.aload_n 0) 1 := by decide +kernel
theorem d56_1 : DC c56 1 (.getfield 48) 3 := by decide +kernel
theorem d56_4 : DC c56 4 (.ireturn) 1 := by decide +kernel
abbrev yM53 : MethodName := ⟨cC21, "size", "()I"⟩
theorem d14_49 : DC c14 49 (.if_icmp .ge 87) 3 := by decide +kernel
theorem d14_52 : DC c14 52 (.aload_n 0) 1 := by decide +kernel
theorem d14_53 : DC c14 53 (.getfield 61) 3 := by decide +kernel
theorem d14_56 : DC c14 56 (.iload 4) 2 := by decide +kernel
theorem d14_58 : DC c14 58 (.invokeinterface 145 2) 5 := by decide +kernel
abbrev c57 := jdk_38_method_20_code
theorem d57_0 : DC c57 0 (.iload_n 1) 1 := by decide +kernel
theorem d57_1 : DC c57 1 (.aload_n 0) 1 := by decide +kernel
theorem d57_2 : DC c57 2 (.getfield 48) 3 := by decide +kernel
theorem d57_5 : DC c57 5 (.invokestatic 118) 3 := by decide +kernel
abbrev c58 := jdk_31_method_17_code
theorem d58_0 : DC c58 0 (.iload_n 0) 1 := by decide +kernel
theorem d58_1 : DC c58 1 (.iload_n 1) 1 := by decide +kernel
theorem d58_2 : DC c58 2 (.aconst_null) 1 := by decide +kernel
theorem d58_3 : DC c58 3 (.invokestatic 105) 3 := by decide +kernel
abbrev c59 := jdk_41_method_11_code
theorem d59_0 : DC c59 0 (.iload_n 0) 1 := by decide +kernel
theorem d59_1 : DC c59 1 (.ifCond .lt 8) 3 := by decide +kernel
theorem d59_4 : DC c59 4 (.iload_n 0) 1 := by decide +kernel
theorem d59_5 : DC c59 5 (.iload_n 1) 1 := by decide +kernel
theorem d59_6 : DC c59 6 (.if_icmp .lt 10) 3 := by decide +kernel
theorem d59_16 : DC c59 16 (.iload_n 0) 1 := by decide +kernel
theorem d59_17 : DC c59 17 (.ireturn) 1 := by decide +kernel
abbrev cC37 : String := "jdk/internal/util/Preconditions"
abbrev yM54 : MethodName := ⟨cC37, "checkIndex", "(IILjava/util/function/BiFunction;)I"⟩
theorem pn59 : plainName "jdk/internal/util/Preconditions" = true := by first | (simp [plainName, overriddenIn]; done) | decide +kernel
theorem pd31 : parseMethodDescriptor "(IILjava/util/function/BiFunction;)I" = some ⟨[.int, .int, (.object "java/util/function/BiFunction")], some .int⟩ := by decide +kernel
theorem d58_6 : DC c58 6 (.ireturn) 1 := by decide +kernel
abbrev yM55 : MethodName := ⟨cC32, "checkIndex", "(II)I"⟩
theorem d57_8 : DC c57 8 (.pop) 1 := by decide +kernel
theorem d57_9 : DC c57 9 (.aload_n 0) 1 := by decide +kernel
theorem d57_10 : DC c57 10 (.iload_n 1) 1 := by decide +kernel
theorem d57_11 : DC c57 11 (.invokevirtual 123) 3 := by decide +kernel
abbrev c60 := jdk_38_method_18_code
theorem d60_0 : DC c60 0 (.aload_n 0) 1 := by decide +kernel
theorem d60_1 : DC c60 1 (.getfield 9) 3 := by decide +kernel
theorem d60_4 : DC c60 4 (.iload_n 1) 1 := by decide +kernel
theorem d60_5 : DC c60 5 (.aaload) 1 := by decide +kernel
theorem d60_6 : DC c60 6 (.areturn) 1 := by decide +kernel
abbrev yM56 : MethodName := ⟨cC21, "elementData", "(I)Ljava/lang/Object;"⟩
theorem d57_14 : DC c57 14 (.areturn) 1 := by decide +kernel
abbrev yM57 : MethodName := ⟨cC21, "get", "(I)Ljava/lang/Object;"⟩
theorem d14_63 : DC c14 63 (.checkcast 13) 3 := by decide +kernel
theorem d14_66 : DC c14 66 (.astore 5) 2 := by decide +kernel
theorem d14_68 : DC c14 68 (.aload 5) 2 := by decide +kernel
theorem d14_70 : DC c14 70 (.aload_n 1) 1 := by decide +kernel
theorem d14_71 : DC c14 71 (.if_acmp .ne 8) 3 := by decide +kernel
theorem d14_79 : DC c14 79 (.aload 5) 2 := by decide +kernel
theorem d14_81 : DC c14 81 (.getfield 125) 3 := by decide +kernel
theorem d14_84 : DC c14 84 (.aload_n 1) 1 := by decide +kernel
theorem d14_85 : DC c14 85 (.getfield 125) 3 := by decide +kernel
theorem d14_88 : DC c14 88 (.if_acmp .eq 42) 3 := by decide +kernel
theorem d14_91 : DC c14 91 (.aload 5) 2 := by decide +kernel
theorem d14_93 : DC c14 93 (.getfield 36) 3 := by decide +kernel
theorem d14_96 : DC c14 96 (.ifCond .ne 7) 3 := by decide +kernel
theorem d14_103 : DC c14 103 (.aload 5) 2 := by decide +kernel
theorem d14_105 : DC c14 105 (.getfield 128) 3 := by decide +kernel
theorem d14_108 : DC c14 108 (.aload_n 1) 1 := by decide +kernel
theorem d14_109 : DC c14 109 (.getfield 128) 3 := by decide +kernel
theorem d14_112 : DC c14 112 (.invokevirtual 149) 3 := by decide +kernel
abbrev c61 := prog_86_method_4_code
theorem d61_0 : DC c61 0 (.aload_n 0) 1 := by decide +kernel
theorem d61_1 : DC c61 1 (.getstatic 3) 3 := by decide +kernel
theorem d61_4 : DC c61 4 (.if_acmp .ne 14) 3 := by decide +kernel
theorem d61_7 : DC c61 7 (.aload_n 1) 1 := by decide +kernel
theorem d61_8 : DC c61 8 (.getstatic 3) 3 := by decide +kernel
theorem d61_11 : DC c61 11 (.if_acmp .ne 7) 3 := by decide +kernel
theorem d61_14 : DC c61 14 (.iconst 1) 1 := by decide +kernel
theorem d61_15 : DC c61 15 (.goto 4) 3 := by decide +kernel
theorem d61_19 : DC c61 19 (.ireturn) 1 := by decide +kernel
abbrev yM58 : MethodName := ⟨cC2, "isCompatibleWith", "(Lcom/example/acidb/acidb/sql/LockMode;)Z"⟩
theorem pn61 : plainName "com/example/acidb/acidb/sql/LockMode" = true := by first | (simp [plainName, overriddenIn]; done) | decide +kernel
theorem pd32 : parseMethodDescriptor "(Lcom/example/acidb/acidb/sql/LockMode;)Z" = some ⟨[(.object "com/example/acidb/acidb/sql/LockMode")], some .boolean⟩ := by decide +kernel
theorem d14_115 : DC c14 115 (.ifCond .ne 15) 3 := by decide +kernel
theorem d14_130 : DC c14 130 (.iinc 4 1) 3 := by decide +kernel
theorem d14_133 : DC c14 133 (.goto (-102)) 3 := by decide +kernel
theorem d19_66 : DC c19 66 (.aload_n 0) 1 := by decide +kernel
theorem d19_67 : DC c19 67 (.getfield 61) 3 := by decide +kernel
theorem d19_70 : DC c19 70 (.aload_n 1) 1 := by decide +kernel
theorem d19_71 : DC c19 71 (.invokeinterface 156 2) 5 := by decide +kernel
abbrev c67 := jdk_38_method_10_code
theorem d67_0 : DC c67 0 (.aload_n 0) 1 := by decide +kernel
theorem d67_1 : DC c67 1 (.aload_n 1) 1 := by decide +kernel
theorem d67_2 : DC c67 2 (.invokevirtual 85) 3 := by decide +kernel
abbrev c68 := jdk_38_method_11_code
theorem d68_0 : DC c68 0 (.aload_n 0) 1 := by decide +kernel
theorem d68_1 : DC c68 1 (.aload_n 1) 1 := by decide +kernel
theorem d68_2 : DC c68 2 (.iconst 0) 1 := by decide +kernel
theorem d68_3 : DC c68 3 (.aload_n 0) 1 := by decide +kernel
theorem d68_4 : DC c68 4 (.getfield 48) 3 := by decide +kernel
theorem d68_7 : DC c68 7 (.invokevirtual 89) 3 := by decide +kernel
abbrev c69 := jdk_38_method_12_code
theorem d69_0 : DC c69 0 (.aload_n 0) 1 := by decide +kernel
theorem d69_1 : DC c69 1 (.getfield 9) 3 := by decide +kernel
theorem d69_4 : DC c69 4 (.astore 4) 2 := by decide +kernel
theorem d69_6 : DC c69 6 (.aload_n 1) 1 := by decide +kernel
theorem d69_7 : DC c69 7 (.ifnonnull 32) 3 := by decide +kernel
theorem d69_39 : DC c69 39 (.iload_n 2) 1 := by decide +kernel
theorem d69_40 : DC c69 40 (.istore 5) 2 := by decide +kernel
theorem d69_42 : DC c69 42 (.iload 5) 2 := by decide +kernel
theorem d69_44 : DC c69 44 (.iload_n 3) 1 := by decide +kernel
theorem d69_45 : DC c69 45 (.if_icmp .ge 24) 3 := by decide +kernel
theorem d69_48 : DC c69 48 (.aload_n 1) 1 := by decide +kernel
theorem d69_49 : DC c69 49 (.aload 4) 2 := by decide +kernel
theorem d69_51 : DC c69 51 (.iload 5) 2 := by decide +kernel
theorem d69_53 : DC c69 53 (.aaload) 1 := by decide +kernel
theorem d69_54 : DC c69 54 (.invokevirtual 93) 3 := by decide +kernel
theorem d69_57 : DC c69 57 (.ifCond .eq 6) 3 := by decide +kernel
theorem d69_63 : DC c69 63 (.iinc 5 1) 3 := by decide +kernel
theorem d69_66 : DC c69 66 (.goto (-24)) 3 := by decide +kernel
theorem d69_69 : DC c69 69 (.iconst (-1)) 1 := by decide +kernel
theorem d69_70 : DC c69 70 (.ireturn) 1 := by decide +kernel
abbrev yM59 : MethodName := ⟨cC21, "indexOfRange", "(Ljava/lang/Object;II)I"⟩
theorem pd33 : parseMethodDescriptor "(Ljava/lang/Object;II)I" = some ⟨[(.object "java/lang/Object"), .int, .int], some .int⟩ := by decide +kernel
theorem d68_10 : DC c68 10 (.ireturn) 1 := by decide +kernel
abbrev yM60 : MethodName := ⟨cC21, "indexOf", "(Ljava/lang/Object;)I"⟩
theorem pd34 : parseMethodDescriptor "(Ljava/lang/Object;)I" = some ⟨[(.object "java/lang/Object")], some .int⟩ := by decide +kernel
theorem d67_5 : DC c67 5 (.ifCond .lt 7) 3 := by decide +kernel
theorem d67_12 : DC c67 12 (.iconst 0) 1 := by decide +kernel
theorem d67_13 : DC c67 13 (.ireturn) 1 := by decide +kernel
abbrev yM61 : MethodName := ⟨cC21, "contains", "(Ljava/lang/Object;)Z"⟩
theorem d19_76 : DC c19 76 (.ifCond .ne 14) 3 := by decide +kernel
theorem d49_59 : DC c49 59 (.iinc 4 1) 3 := by decide +kernel
theorem d49_62 : DC c49 62 (.goto (-23)) 3 := by decide +kernel
theorem d51_22 : DC c51 22 (.aload_n 1) 1 := by decide +kernel
theorem d51_23 : DC c51 23 (.iload_n 2) 1 := by decide +kernel
theorem d51_24 : DC c51 24 (.iconst 1) 1 := by decide +kernel
theorem d51_25 : DC c51 25 (.iadd) 1 := by decide +kernel
theorem d51_26 : DC c51 26 (.aload_n 1) 1 := by decide +kernel
theorem d51_27 : DC c51 27 (.iload_n 2) 1 := by decide +kernel
theorem d51_28 : DC c51 28 (.iload_n 3) 1 := by decide +kernel
theorem d51_29 : DC c51 29 (.iload_n 2) 1 := by decide +kernel
theorem d51_30 : DC c51 30 (.isub) 1 := by decide +kernel
theorem d51_31 : DC c51 31 (.invokestatic 112) 3 := by decide +kernel
theorem d10_16 : DC c10 16 (.iconst 1) 1 := by decide +kernel
theorem d10_17 : DC c10 17 (.goto 4) 3 := by decide +kernel
theorem d9_19 : DC c9 19 (.iconst 0) 1 := by decide +kernel
theorem d9_47 : DC c9 47 (.aload_n 3) 1 := by decide +kernel
theorem d9_48 : DC c9 48 (.iconst 1) 1 := by decide +kernel
theorem d9_49 : DC c9 49 (.putfield 36) 3 := by decide +kernel
theorem d9_52 : DC c9 52 (.goto 30) 3 := by decide +kernel
theorem d61_18 : DC c61 18 (.iconst 0) 1 := by decide +kernel
theorem d14_118 : DC c14 118 (.aload_n 2) 1 := by decide +kernel
theorem d14_119 : DC c14 119 (.aload 5) 2 := by decide +kernel
theorem d14_121 : DC c14 121 (.getfield 125) 3 := by decide +kernel
theorem d14_124 : DC c14 124 (.invokeinterface 52 2) 5 := by decide +kernel
theorem d23_6 : DC c23 6 (.aload_n 0) 1 := by decide +kernel
theorem d23_7 : DC c23 7 (.invokevirtual 129) 3 := by decide +kernel
abbrev c62 := jdk_38_method_7_code
theorem d62_0 : DC c62 0 (.aload_n 0) 1 := by decide +kernel
theorem d62_1 : DC c62 1 (.aload_n 0) 1 := by decide +kernel
theorem d62_2 : DC c62 2 (.getfield 48) 3 := by decide +kernel
theorem d62_5 : DC c62 5 (.iconst 1) 1 := by decide +kernel
theorem d62_6 : DC c62 6 (.iadd) 1 := by decide +kernel
theorem d62_7 : DC c62 7 (.invokevirtual 69) 3 := by decide +kernel
abbrev c63 := jdk_38_method_6_code
theorem d63_0 : DC c63 0 (.aload_n 0) 1 := by decide +kernel
theorem d63_1 : DC c63 1 (.getfield 9) 3 := by decide +kernel
theorem d63_4 : DC c63 4 (.arraylength) 1 := by decide +kernel
theorem d63_5 : DC c63 5 (.istore_n 2) 1 := by decide +kernel
theorem d63_6 : DC c63 6 (.iload_n 2) 1 := by decide +kernel
theorem d63_7 : DC c63 7 (.ifCond .gt 13) 3 := by decide +kernel
theorem d63_10 : DC c63 10 (.aload_n 0) 1 := by decide +kernel
theorem d63_11 : DC c63 11 (.getfield 9) 3 := by decide +kernel
theorem d63_14 : DC c63 14 (.getstatic 39) 3 := by decide +kernel
theorem d63_17 : DC c63 17 (.if_acmp .eq 28) 3 := by decide +kernel
theorem d63_45 : DC c63 45 (.aload_n 0) 1 := by decide +kernel
theorem d63_46 : DC c63 46 (.bipush 10) 2 := by decide +kernel
theorem d63_48 : DC c63 48 (.iload_n 1) 1 := by decide +kernel
theorem d63_49 : DC c63 49 (.invokestatic 79) 3 := by decide +kernel
abbrev c64 := jdk_29_method_65_code
theorem d64_0 : DC c64 0 (.iload_n 0) 1 := by decide +kernel
theorem d64_1 : DC c64 1 (.iload_n 1) 1 := by decide +kernel
theorem d64_2 : DC c64 2 (.if_icmp .lt 7) 3 := by decide +kernel
theorem d64_5 : DC c64 5 (.iload_n 0) 1 := by decide +kernel
theorem d64_6 : DC c64 6 (.goto 4) 3 := by decide +kernel
theorem d64_10 : DC c64 10 (.ireturn) 1 := by decide +kernel
abbrev yM62 : MethodName := ⟨cC28, "max", "(II)I"⟩
theorem d63_52 : DC c63 52 (.anewarray 7) 3 := by decide +kernel
theorem d63_55 : DC c63 55 (.dup_x1) 1 := by decide +kernel
theorem d63_56 : DC c63 56 (.putfield 9) 3 := by decide +kernel
theorem d63_59 : DC c63 59 (.areturn) 1 := by decide +kernel
abbrev yM63 : MethodName := ⟨cC21, "grow", "(I)[Ljava/lang/Object;"⟩
theorem pd35 : parseMethodDescriptor "(I)[Ljava/lang/Object;" = some ⟨[.int], some (.array (.object "java/lang/Object"))⟩ := by decide +kernel
theorem d62_10 : DC c62 10 (.areturn) 1 := by decide +kernel
abbrev yM64 : MethodName := ⟨cC21, "grow", "()[Ljava/lang/Object;"⟩
theorem d23_10 : DC c23 10 (.astore_n 2) 1 := by decide +kernel
theorem d14_129 : DC c14 129 (.pop) 1 := by decide +kernel
theorem d9_71 : DC c9 71 (.aload_n 0) 1 := by decide +kernel
theorem d9_72 : DC c9 72 (.invokevirtual 48) 3 := by decide +kernel
theorem d9_75 : DC c9 75 (.aload_n 3) 1 := by decide +kernel
theorem d9_76 : DC c9 76 (.invokeinterface 52 2) 5 := by decide +kernel
theorem d9_81 : DC c9 81 (.pop) 1 := by decide +kernel
theorem d37_5 : DC c37 5 (.iload_n 0) 1 := by decide +kernel
theorem d37_6 : DC c37 6 (.goto 4) 3 := by decide +kernel
theorem d38_45 : DC c38 45 (.new 96) 3 := by decide +kernel
theorem d38_48 : DC c38 48 (.dup) 1 := by decide +kernel
theorem d38_49 : DC c38 49 (.aload_n 0) 1 := by decide +kernel
theorem d38_50 : DC c38 50 (.iconst 0) 1 := by decide +kernel
theorem d38_51 : DC c38 51 (.aaload) 1 := by decide +kernel
theorem d38_52 : DC c38 52 (.aload_n 0) 1 := by decide +kernel
theorem d38_53 : DC c38 53 (.iconst 1) 1 := by decide +kernel
theorem d38_54 : DC c38 54 (.aaload) 1 := by decide +kernel
theorem d38_55 : DC c38 55 (.invokespecial 100) 3 := by decide +kernel
abbrev c65 := jdk_44_method_2_code
theorem d65_0 : DC c65 0 (.aload_n 0) 1 := by decide +kernel
theorem d65_1 : DC c65 1 (.invokespecial 1) 3 := by decide +kernel
theorem d65_4 : DC c65 4 (.aload_n 0) 1 := by decide +kernel
theorem d65_5 : DC c65 5 (.aload_n 1) 1 := by decide +kernel
theorem d65_6 : DC c65 6 (.invokestatic 7) 3 := by decide +kernel
theorem d65_9 : DC c65 9 (.putfield 13) 3 := by decide +kernel
theorem d65_12 : DC c65 12 (.aload_n 0) 1 := by decide +kernel
theorem d65_13 : DC c65 13 (.aload_n 2) 1 := by decide +kernel
theorem d65_14 : DC c65 14 (.invokestatic 7) 3 := by decide +kernel
theorem d65_17 : DC c65 17 (.putfield 24) 3 := by decide +kernel
theorem d65_20 : DC c65 20 (.return_) 1 := by decide +kernel
abbrev yM65 : MethodName := ⟨cC33, "<init>", "(Ljava/lang/Object;Ljava/lang/Object;)V"⟩
theorem pd36 : parseMethodDescriptor "(Ljava/lang/Object;Ljava/lang/Object;)V" = some ⟨[(.object "java/lang/Object"), (.object "java/lang/Object")], none⟩ := by decide +kernel
theorem d38_58 : DC c38 58 (.areturn) 1 := by decide +kernel
theorem d44_10 : DC c44 10 (.iconst 2) 1 := by decide +kernel
theorem d44_11 : DC c44 11 (.goto 4) 3 := by decide +kernel
theorem d48_9 : DC c48 9 (.iload_n 1) 1 := by decide +kernel
theorem d48_10 : DC c48 10 (.iconst 1) 1 := by decide +kernel
theorem d48_11 : DC c48 11 (.if_icmp .ne 18) 3 := by decide +kernel
theorem d48_14 : DC c48 14 (.aload_n 0) 1 := by decide +kernel
theorem d48_15 : DC c48 15 (.getfield 24) 3 := by decide +kernel
theorem d48_18 : DC c48 18 (.getstatic 19) 3 := by decide +kernel
theorem d48_21 : DC c48 21 (.if_acmp .eq 8) 3 := by decide +kernel
theorem d48_24 : DC c48 24 (.aload_n 0) 1 := by decide +kernel
theorem d48_25 : DC c48 25 (.getfield 24) 3 := by decide +kernel
theorem d48_28 : DC c48 28 (.areturn) 1 := by decide +kernel
theorem d31_48 : DC c31 48 (.aload_n 0) 1 := by decide +kernel
theorem d31_49 : DC c31 49 (.aload_n 3) 1 := by decide +kernel
theorem d31_50 : DC c31 50 (.invokevirtual 40) 3 := by decide +kernel
theorem d14_74 : DC c14 74 (.iconst 0) 1 := by decide +kernel
theorem d14_75 : DC c14 75 (.istore_n 3) 1 := by decide +kernel
theorem d14_76 : DC c14 76 (.goto 54) 3 := by decide +kernel
theorem d31_53 : DC c31 53 (.ifCond .eq 10) 3 := by decide +kernel
theorem d31_56 : DC c31 56 (.aload_n 0) 1 := by decide +kernel
theorem d31_57 : DC c31 57 (.aload_n 3) 1 := by decide +kernel
theorem d31_58 : DC c31 58 (.invokevirtual 44) 3 := by decide +kernel
theorem d19_10 : DC c19 10 (.aload_n 0) 1 := by decide +kernel
theorem d19_11 : DC c19 11 (.aload_n 1) 1 := by decide +kernel
theorem d19_12 : DC c19 12 (.getfield 125) 3 := by decide +kernel
theorem d19_15 : DC c19 15 (.invokevirtual 32) 3 := by decide +kernel
theorem d19_18 : DC c19 18 (.astore_n 2) 1 := by decide +kernel
theorem d19_19 : DC c19 19 (.aload_n 0) 1 := by decide +kernel
theorem d19_20 : DC c19 20 (.aload_n 1) 1 := by decide +kernel
theorem d19_21 : DC c19 21 (.getfield 125) 3 := by decide +kernel
theorem d19_24 : DC c19 24 (.putfield 22) 3 := by decide +kernel
theorem d19_27 : DC c19 27 (.aload_n 0) 1 := by decide +kernel
theorem d19_28 : DC c19 28 (.getfield 61) 3 := by decide +kernel
theorem d19_31 : DC c19 31 (.ifnull 25) 3 := by decide +kernel
theorem d19_34 : DC c19 34 (.aload_n 0) 1 := by decide +kernel
theorem d19_35 : DC c19 35 (.getfield 61) 3 := by decide +kernel
theorem d19_38 : DC c19 38 (.aload_n 1) 1 := by decide +kernel
theorem d19_39 : DC c19 39 (.invokeinterface 64 2) 5 := by decide +kernel
theorem d19_44 : DC c19 44 (.pop) 1 := by decide +kernel
theorem d19_45 : DC c19 45 (.aload_n 0) 1 := by decide +kernel
theorem d19_46 : DC c19 46 (.getfield 61) 3 := by decide +kernel
theorem d19_49 : DC c19 49 (.aload_n 2) 1 := by decide +kernel
theorem d19_50 : DC c19 50 (.invokeinterface 64 2) 5 := by decide +kernel
theorem d49_17 : DC c49 17 (.iload 4) 2 := by decide +kernel
theorem d49_19 : DC c49 19 (.iload_n 3) 1 := by decide +kernel
theorem d49_20 : DC c49 20 (.if_icmp .ge 45) 3 := by decide +kernel
theorem d49_65 : DC c49 65 (.iconst 0) 1 := by decide +kernel
theorem d49_66 : DC c49 66 (.ireturn) 1 := by decide +kernel
theorem d19_55 : DC c19 55 (.pop) 1 := by decide +kernel
theorem d19_56 : DC c19 56 (.goto 34) 3 := by decide +kernel
theorem d31_61 : DC c31 61 (.iconst 1) 1 := by decide +kernel
theorem d31_62 : DC c31 62 (.istore_n 1) 1 := by decide +kernel
theorem d25_8 : DC c25 8 (.aload_n 0) 1 := by decide +kernel
theorem d25_9 : DC c25 9 (.aconst_null) 1 := by decide +kernel
theorem d25_10 : DC c25 10 (.putfield 22) 3 := by decide +kernel
theorem d25_13 : DC c25 13 (.aload_n 0) 1 := by decide +kernel
theorem d25_14 : DC c25 14 (.aconst_null) 1 := by decide +kernel
theorem d25_15 : DC c25 15 (.putfield 71) 3 := by decide +kernel
abbrev c66 := prog_36_method_4_code
theorem d66_0 : DC c66 0 (.aload_n 0) 1 := by decide +kernel
theorem d66_1 : DC c66 1 (.getfield 61) 3 := by decide +kernel
theorem d66_4 : DC c66 4 (.aload_n 1) 1 := by decide +kernel
theorem d66_5 : DC c66 5 (.invokeinterface 64 2) 5 := by decide +kernel
theorem d66_10 : DC c66 10 (.pop) 1 := by decide +kernel
theorem d66_11 : DC c66 11 (.aload_n 0) 1 := by decide +kernel
theorem d66_12 : DC c66 12 (.invokevirtual 67) 3 := by decide +kernel
theorem d66_15 : DC c66 15 (.ireturn) 1 := by decide +kernel
abbrev yM66 : MethodName := ⟨cC8, "cancel", "(Lcom/example/acidb/acidb/engine/LockedRow$Request;)Z"⟩
theorem d14_15 : DC c14 15 (.aload_n 2) 1 := by decide +kernel
theorem d14_16 : DC c14 16 (.aload_n 0) 1 := by decide +kernel
theorem d14_17 : DC c14 17 (.getfield 22) 3 := by decide +kernel
theorem d14_20 : DC c14 20 (.invokeinterface 52 2) 5 := by decide +kernel
theorem d14_25 : DC c14 25 (.pop) 1 := by decide +kernel
theorem d69_60 : DC c69 60 (.iload 5) 2 := by decide +kernel
theorem d69_62 : DC c69 62 (.ireturn) 1 := by decide +kernel
theorem d67_8 : DC c67 8 (.iconst 1) 1 := by decide +kernel
theorem d67_9 : DC c67 9 (.goto 4) 3 := by decide +kernel
theorem pn0 : plainName "com/example/acidb/acidb/engine/LockedRowIsFreePinLaw" = true := by first | (simp [plainName, overriddenIn]; done) | decide +kernel
def Q0 (n0 : Nat) (v : Option Value) (h : Heap) (L : List Loc) : Prop := v = some (.int (1 : Int32)) ∧ Fr n0 L
def own_RN (z : Value) : Prop := z = .null ∨ ∃ b, z = .ref b
abbrev own_T (l : Launch) (Z : State) (a0 A : Array Value) (h : Heap) (cells slots pc : Nat) (Ls : Array Slot) : Prop := own_A l Z a0 x.cls code 21 x.name ret room_1 A 64 320 (fun v _ => v = some (.int (1 : Int32))) h cells slots pc Ls []
section Walk
variable {l : Launch} {Z : State} {a0 A : Array Value} {h0 : Heap}
set_option maxRecDepth 65536 in
set_option maxHeartbeats 40000000 in
theorem rm55_1 {a1 : Addr} (hw : HW a0 Z) :
    own_M l Z h0 yM0 c55 1 none 1 0 0 12 #[VR a1] (fun v h => v = none ∧ h0 = h) := by
  refine own_ent hw (plainFor_of_name pn55) #[SR a1] (fun _ => rfl) fun Q k => ?_
  exact jLa d55_0 rfl (jiO 0 415 18 19 d55_1 (jrV d55_4 (k _ _ ⟨rfl, rfl⟩)))
set_option maxRecDepth 65536 in
set_option maxHeartbeats 40000000 in
theorem rm54_1 {a1 : Addr} {q2 : Int64} (hw : HW a0 Z) (f4 : Exa Z h0 a1 cC5) (f5 : Fld Z h0 a1 cC5 "value" "J" (VJ 0)) (f6 : Z.heap.size ≤ a1) :
    own_M l Z h0 yM1 c54 3 none 2 0 0 24 #[VR a1, VJ q2] (fun v h => v = none ∧ Keep h0 h [a1] ∧ Exa Z h a1 cC5 ∧ Fld Z h a1 cC5 "value" "J" (VJ q2)) := by
  refine own_ent hw (plainFor_of_name pn1) #[SR a1, SJ q2, SS] (fun _ => rfl) fun Q k => ?_
  refine jLa d54_0 rfl (jcI 0 409 410 413 414 (rm55_1 hw) pd0 d54_1 rfl ?_)
  rintro _ _ ⟨rfl, rfl⟩
  refine jLa d54_4 rfl (jLj d54_5 rfl (jpLJ 416 417 404 f5 f4 f6 d54_6 fun h7 W7 F7 => ?_))
  exact jrV d54_9 (k _ _ ⟨rfl, ((Keep.refl h0 [a1]).wr W7 (mI 0)), (f4.wr W7), F7⟩)
set_option maxRecDepth 65536 in
set_option maxHeartbeats 40000000 in
theorem rm1_m1 {PJ1_ : Int64} {A2_ : Addr} (hw : HW a0 Z) (fm1_ : Sta Z Z.heap cC6 "cache" cC7 (VR A2_)) (fm2_ : own_BoxLong Z A2_) :
    own_M l Z h0 yM2 c1 3 (some (.object cC5)) 3 1 1 39 #[VJ PJ1_] (fun v h => ∃ r0 : Addr, v = some (.ref r0) ∧ Keep h0 h [] ∧ Exa Z h r0 cC5) := by
  refine own_ent hw (plainFor_of_name pn1) #[SJ PJ1_, SS, SU] (fun _ => rfl) fun Q k => ?_
  by_cases hm0 : (own_lc PJ1_ (-128 : Int64)) < (0 : Int32)
  ·
    refine jkS 128 d1_0 rfl (jti d1_3 #[SJ PJ1_, SS, SI 128] rfl (jLj d1_4 rfl (jl2 10 (-128) d1_5 (jlcmp d1_8 (jiltY 31 d1_9 hm0 (jnew 403 404 8 d1_31 fun b1 h1 g1 u1 E1 A1 D1 => ?_))))))
    refine jdU d1_34 rfl (jLj d1_35 rfl (jcI 1 405 406 8 408 (rm54_1 hw A1 (dJ D1 (lB hw 417)) u1) pd1 d1_36 rfl ?_))
    rintro _ h3 ⟨rfl, K3, o0_3, o1_3⟩
    exact jrA d1_39 (k _ _ ⟨b1, rfl, (((Keep.refl h0 []).ext E1).trans K3 (allS (Or.inr g1) all0)), o0_3⟩)
  ·
    by_cases hm1 : (0 : Int32) < (own_lc PJ1_ (127 : Int64))
    ·
      refine jkS 128 d1_0 rfl (jti d1_3 #[SJ PJ1_, SS, SI 128] rfl (jLj d1_4 rfl (jl2 10 (-128) d1_5 (jlcmp d1_8 (jiltN d1_9 hm0 (jLj d1_12 rfl (jl2 11 127 d1_13 (jlcmp d1_16 (jigtY 31 d1_17 hm1 (jnew 403 404 8 d1_31 fun b1 h1 g1 u1 E1 A1 D1 => ?_))))))))))
      refine jdU d1_34 rfl (jLj d1_35 rfl (jcI 1 405 406 8 408 (rm54_1 hw A1 (dJ D1 (lB hw 417)) u1) pd1 d1_36 rfl ?_))
      rintro _ h3 ⟨rfl, K3, o0_3, o1_3⟩
      exact jrA d1_39 (k _ _ ⟨b1, rfl, (((Keep.refl h0 []).ext E1).trans K3 (allS (Or.inr g1) all0)), o0_3⟩)
    ·
      refine jkS 128 d1_0 rfl (jti d1_3 #[SJ PJ1_, SS, SI 128] rfl (jLj d1_4 rfl (jl2 10 (-128) d1_5 (jlcmp d1_8 (jiltN d1_9 hm0 (jLj d1_12 rfl (jl2 11 127 d1_13 (jlcmp d1_16 (jigtN d1_17 hm1 (jgS 12 fm1_ d1_20 (jLj d1_23 rfl (jl2i d1_24 (jkS 128 d1_25 rfl (jiadd d1_28 (jbx fm2_ (own_boxL PJ1_ hm0 hm1) d1_29 fun b1 xx1 => ?_)))))))))))))))
      exact jrA d1_30 (k _ _ ⟨b1, rfl, (Keep.refl h0 []), xx1⟩)
set_option maxRecDepth 65536 in
set_option maxHeartbeats 40000000 in
theorem rm2_1 {a1 a2 : Addr} (hw : HW a0 Z) (f3 : Exa Z h0 a1 cC8) (f4 : Fld Z h0 a1 cC8 "key" cC9 (.null)) (f5 : Z.heap.size ≤ a1) (f8 : Fld Z h0 a1 cC8 "exclusive" cC10 (.null)) (f10 : Fld Z h0 a1 cC8 "others" cC11 (.null)) (f12 : Fld Z h0 a1 cC8 "version" cC1 (.null)) :
    own_M l Z h0 yM3 c2 2 none 1 0 0 12 #[VR a1, VR a2] (fun v h => v = none ∧ Keep h0 h [a1] ∧ Exa Z h a1 cC8 ∧ Fld Z h a1 cC8 "key" cC9 (VR a2) ∧ Fld Z h a1 cC8 "exclusive" cC10 (.null) ∧ Fld Z h a1 cC8 "others" cC11 (.null) ∧ Fld Z h a1 cC8 "version" cC1 (.null)) := by
  refine own_ent hw (plainFor_of_name pn2) #[SR a1, SR a2] (fun _ => rfl) fun Q k => ?_
  refine jLa d2_0 rfl (jiO 0 17 18 19 d2_1 (jLa d2_4 rfl (jLa d2_5 rfl (jpLR 20 21 4 f4 f3 f5 d2_6 fun h6 W6 F6 => ?_))))
  exact jrV d2_9 (k _ _ ⟨rfl, ((Keep.refl h0 [a1]).wr W6 (mI 0)), (f3.wr W6), F6, (fS f8 W6 (lA hw 67) (lB hw 21)), (fS f10 W6 (lA hw 69) (lB hw 21)), (fS f12 W6 (lA hw 419) (lB hw 21))⟩)
set_option maxRecDepth 65536 in
set_option maxHeartbeats 40000000 in
theorem rm7_1 {a1 : Addr} (hw : HW a0 Z) :
    own_M l Z h0 yM4 c7 1 none 1 0 0 12 #[VR a1] (fun v h => v = none ∧ h0 = h) := by
  refine own_ent hw (plainFor_of_name pn7) #[SR a1] (fun _ => rfl) fun Q k => ?_
  exact jLa d7_0 rfl (jiO 0 47 18 19 d7_1 (jrV d7_4 (k _ _ ⟨rfl, rfl⟩)))
set_option maxRecDepth 65536 in
set_option maxHeartbeats 40000000 in
theorem rm6_1 {a1 : Addr} (hw : HW a0 Z) (f3 : Exa Z h0 a1 cC13) (f4 : Fld Z h0 a1 cC14 "loadFactor" "F" (.float 0)) (f5 : Z.heap.size ≤ a1) (f8 : Fld Z h0 a1 cC13 "putMode" "I" (VI 0)) (f10 : Fld Z h0 a1 cC13 "accessOrder" "Z" (VI 0)) :
    own_M l Z h0 yM5 c6 1 none 2 0 0 24 #[VR a1] (fun v h => v = none ∧ Keep h0 h [a1] ∧ Exa Z h a1 cC13 ∧ Fld Z h a1 cC14 "loadFactor" "F" (.float 1061158912) ∧ Fld Z h a1 cC13 "putMode" "I" (VI 0) ∧ Fld Z h a1 cC13 "accessOrder" "Z" (VI 0)) := by
  refine own_ent hw (plainFor_of_name pn6) #[SR a1] (fun _ => rfl) fun Q k => ?_
  refine jLa d6_0 rfl (jcI 0 41 42 45 46 (rm7_1 hw) pd0 d6_1 rfl ?_)
  rintro _ _ ⟨rfl, rfl⟩
  refine jLa d6_4 rfl (jlF 48 d6_5 (jpLF 49 50 30 f4 f3 f5 d6_7 fun h6 W6 F6 => ?_))
  exact jrV d6_10 (k _ _ ⟨rfl, ((Keep.refl h0 [a1]).wr W6 (mI 0)), (f3.wr W6), F6, (fS f8 W6 (lA hw 52) (lB hw 50)), (fS f10 W6 (lB hw 54) (lB hw 50))⟩)
set_option maxRecDepth 65536 in
set_option maxHeartbeats 40000000 in
theorem rm5_1 {a1 : Addr} (hw : HW a0 Z) (f2 : Exa Z h0 a1 cC13) (f3 : Fld Z h0 a1 cC14 "loadFactor" "F" (.float 0)) (f4 : Z.heap.size ≤ a1) (f5 : Fld Z h0 a1 cC13 "putMode" "I" (VI 0)) (f6 : Fld Z h0 a1 cC13 "accessOrder" "Z" (VI 0)) :
    own_M l Z h0 yM6 c5 1 none 3 0 0 36 #[VR a1] (fun v h => v = none ∧ Keep h0 h [a1] ∧ Exa Z h a1 cC13 ∧ Fld Z h a1 cC14 "loadFactor" "F" (.float 1061158912) ∧ Fld Z h a1 cC13 "putMode" "I" (VI 0) ∧ Fld Z h a1 cC13 "accessOrder" "Z" (VI 0)) := by
  refine own_ent hw (plainFor_of_name pn5) #[SR a1] (fun _ => rfl) fun Q k => ?_
  refine jLa d5_0 rfl (jcI 0 35 36 39 40 (rm6_1 hw f2 f3 f4 f5 f6) pd0 d5_1 rfl ?_)
  rintro _ h7 ⟨rfl, K7, o0_7, o1_7, o2_7, o3_7⟩
  refine jLa d5_4 rfl (jkI 0 d5_5 rfl (jpFI 51 52 30 o2_7 o0_7 f4 d5_6 fun h8 W8 F8 => ?_))
  have F9 := o0_7.wr W8
  refine jLa d5_9 rfl (jkI 0 d5_10 rfl (jpLZ 53 54 30 (fS o3_7 W8 (lB hw 54) (lA hw 52)) F9 f4 d5_11 fun h11 W11 F11 => ?_))
  exact jrV d5_14 (k _ _ ⟨rfl, ((((Keep.refl h0 [a1]).trans K7 (allS (mI 0) all0)).wr W8 (mI 0)).wr W11 (mI 0)), (F9.wr W11), (fS (fS o1_7 W8 (lB hw 50) (lA hw 52)) W11 (lB hw 50) (lB hw 54)), (fS F8 W11 (lA hw 52) (lB hw 54)), F11⟩)
set_option maxRecDepth 65536 in
set_option maxHeartbeats 40000000 in
theorem rm4_1 {a1 : Addr} (hw : HW a0 Z) (f7 : Exa Z h0 a1 cC15) (f9 : Fld Z h0 a1 cC15 "locked" cC16 (.null)) (f12 : Z.heap.size ≤ a1) (f15 : Fld Z h0 a1 cC15 "number" "J" (VJ 0)) (f19 : Fld Z h0 a1 cC15 "isolation" cC17 (.null)) :
    own_M l Z h0 yM7 c4 2 none 4 1 12 50 #[VR a1, .null] (fun v h => ∃ (b2 : Addr), v = none ∧ Keep h0 h [a1] ∧ h0.size ≤ b2 ∧ Exa Z h a1 cC15 ∧ Fld Z h a1 cC15 "locked" cC16 (VR b2) ∧ Fld Z h a1 cC15 "number" "J" (VJ 0) ∧ Fld Z h a1 cC15 "isolation" cC17 (.null) ∧ Exa Z h b2 cC13 ∧ Fld Z h b2 cC14 "loadFactor" "F" (.float 1061158912) ∧ Fld Z h b2 cC13 "putMode" "I" (VI 0) ∧ Fld Z h b2 cC13 "accessOrder" "Z" (VI 0)) := by
  refine own_ent hw (plainFor_of_name pn4) #[SR a1, SN] (fun _ => rfl) fun Q k => ?_
  refine jLa d4_0 rfl (jiO 0 28 18 19 d4_1 (jLa d4_4 rfl (jnew 29 30 31 d4_5 fun b2 h2 g2 u2 E2 A2 D2 => ?_)))
  refine jdU d4_8 rfl (jcI 2 32 33 31 34 (rm5_1 hw A2 (dF D2 (lB hw 50)) u2 (dI D2 (lA hw 52)) (dZ D2 (lB hw 54))) pd0 d4_9 rfl ?_)
  rintro _ h6 ⟨rfl, K6, o0_6, o1_6, o2_6, o3_6⟩
  have F8 := (f7.ext E2).keep K6
  have v10 := own_lo f7.lt g2
  refine jpLR 55 56 23 ((f9.ext E2).keep K6 (ninS v10 nin0)) F8 f12 d4_12 fun h13 W13 F13 => ?_
  have F14 := F8.wr W13
  refine jLa d4_15 rfl (jkJ 0 d4_16 rfl (jpFJ 57 58 23 (fS ((f15.ext E2).keep K6 (ninS v10 nin0)) W13 (lA hw 58) (lB hw 56)) F14 f12 d4_17 fun h17 W17 F17 => ?_))
  have F18 := F14.wr W17
  refine jLa d4_20 rfl (jnLa d4_21 rfl (jpLN 59 60 23 (fS (fS ((f19.ext E2).keep K6 (ninS v10 nin0)) W13 (lB hw 60) (lB hw 56)) W17 (lB hw 60) (lA hw 58)) F18 f12 d4_22 fun h21 W21 F21 => ?_))
  exact jrV d4_25 (k _ _ ⟨b2, rfl, ((((((Keep.refl h0 [a1]).ext E2).trans K6 (allS (Or.inr g2) all0)).wr W13 (mI 0)).wr W17 (mI 0)).wr W21 (mI 0)), g2, (F18.wr W21), (fS (fS F13 W17 (lB hw 56) (lA hw 58)) W21 (lB hw 56) (lB hw 60)), (fS F17 W21 (lA hw 58) (lB hw 60)), F21, (((o0_6.wr W13).wr W17).wr W21), (fW (fW (fW o1_6 W13 v10.symm) W17 v10.symm) W21 v10.symm), (fW (fW (fW o2_6 W13 v10.symm) W17 v10.symm) W21 v10.symm), (fW (fW (fW o3_6 W13 v10.symm) W17 v10.symm) W21 v10.symm)⟩)
set_option maxRecDepth 65536 in
set_option maxHeartbeats 40000000 in
theorem rm8_1 {a1 : Addr} (hw : HW a0 Z) (f2 : Fld Z h0 a1 cC8 "exclusive" cC10 (.null)) (f3 : Fld Z h0 a1 cC8 "others" cC11 (.null)) :
    own_M l Z h0 yM8 c8 1 (some .boolean) 0 0 0 0 #[VR a1] (fun v h => v = some (VI 1) ∧ h0 = h) := by
  refine own_ent hw (plainFor_of_name pn2) #[SR a1] (fun _ => rfl) fun Q k => ?_
  exact jLa d8_0 rfl (jgF 66 f2 d8_1 (jyN d8_4 (jLa d8_7 rfl (jgF 68 f3 d8_8 (jyN d8_11 (jkI 1 d8_14 rfl (jgo 19 d8_15 (jrZ d8_19 (k _ _ ⟨rfl, rfl⟩)))))))))
set_option maxRecDepth 65536 in
set_option maxHeartbeats 40000000 in
theorem rm11_1 {a1 a2 : Addr} (hw : HW a0 Z) (f3 : Fld Z h0 a1 cC8 "others" cC11 (.null)) :
    own_M l Z h0 yM9 c11 5 (some (.object cC18)) 0 0 0 0 #[VR a1, VR a2] (fun v h => v = some (.null) ∧ h0 = h) := by
  refine own_ent hw (plainFor_of_name pn2) #[SR a1, SR a2, SU, SU, SU] (fun _ => rfl) fun Q k => ?_
  exact jkN d11_0 (jnta d11_1 #[SR a1, SR a2, SN, SU, SU] rfl (jLa d11_2 rfl (jgF 68 f3 d11_3 (jzY 73 d11_6 (jnLa d11_73 rfl (jrAn d11_74 (k _ _ ⟨rfl, rfl⟩)))))))
set_option maxRecDepth 65536 in
set_option maxHeartbeats 40000000 in
theorem rm10_1 {a1 a2 : Addr} (hw : HW a0 Z) (f3 : Fld Z h0 a1 cC8 "exclusive" cC10 (.null)) (f4 : Exa Z h0 a1 cC8) (f5 : Fld Z h0 a1 cC8 "others" cC11 (.null)) :
    own_M l Z h0 yM10 c10 2 (some .boolean) 1 0 0 16 #[VR a1, VR a2] (fun v h => v = some (VI 0) ∧ h0 = h) := by
  refine own_ent hw (plainFor_of_name pn2) #[SR a1, SR a2] (fun _ => rfl) fun Q k => ?_
  refine jLa d10_0 rfl (jgF 66 f3 d10_1 (jLa d10_4 rfl (jac 8 d10_5 (decide_eq_false nofun) (jLa d10_8 rfl (jLa d10_9 rfl (jcP 0 82 4 84 83 5 85 (rm11_1 hw f5) f4 pd6 d10_10 rfl ?_))))))
  rintro _ _ ⟨rfl, rfl⟩
  exact jzY 20 d10_13 (jkI 0 d10_20 rfl (jrZ d10_21 (k _ _ ⟨rfl, rfl⟩)))
set_option maxRecDepth 65536 in
set_option maxHeartbeats 40000000 in
theorem rm12_1 {a1 a2 a3 a4 : Addr} (hw : HW a0 Z) (f5 : Exa Z h0 a1 cC18) (f6 : Fld Z h0 a1 cC18 "row" cC19 (.null)) (f7 : Z.heap.size ≤ a1) (f10 : Fld Z h0 a1 cC18 "transaction" cC10 (.null)) (f14 : Fld Z h0 a1 cC18 "mode" cC3 (.null)) (f18 : Fld Z h0 a1 cC18 "first" "Z" (VI 0)) (f25 : Fld Z h0 a1 cC18 "granted" "Z" (VI 0)) :
    own_M l Z h0 yM11 c12 5 none 1 0 0 12 #[VR a1, VR a2, VR a3, VR a4, VI 1] (fun v h => v = none ∧ Keep h0 h [a1] ∧ Exa Z h a1 cC18 ∧ Fld Z h a1 cC18 "row" cC19 (VR a2) ∧ Fld Z h a1 cC18 "transaction" cC10 (VR a3) ∧ Fld Z h a1 cC18 "mode" cC3 (VR a4) ∧ Fld Z h a1 cC18 "first" "Z" (VI 1) ∧ Fld Z h a1 cC18 "granted" "Z" (VI 0)) := by
  refine own_ent hw (plainFor_of_name pn12) #[SR a1, SR a2, SR a3, SR a4, SI 1] (fun _ => rfl) fun Q k => ?_
  refine jLa d12_0 rfl (jiO 0 89 18 19 d12_1 (jLa d12_4 rfl (jLa d12_5 rfl (jpLR 90 91 76 f6 f5 f7 d12_6 fun h8 W8 F8 => ?_))))
  have F9 := f5.wr W8
  refine jLa d12_9 rfl (jLa d12_10 rfl (jpLR 92 93 76 (fS f10 W8 (lB hw 93) (lB hw 91)) F9 f7 d12_11 fun h12 W12 F12 => ?_))
  have F13 := F9.wr W12
  refine jLa d12_14 rfl (jLa d12_15 rfl (jpLR 94 95 76 (fS (fS f14 W8 (lB hw 95) (lB hw 91)) W12 (lB hw 95) (lB hw 93)) F13 f7 d12_16 fun h16 W16 F16 => ?_))
  have F17 := F13.wr W16
  refine jLa d12_19 rfl (jLI d12_20 rfl (jpLZ 96 97 76 (fS (fS (fS f18 W8 (lB hw 97) (lB hw 91)) W12 (lB hw 97) (lB hw 93)) W16 (lB hw 97) (lB hw 95)) F17 f7 d12_22 fun h20 W20 F20 => ?_))
  exact jrV d12_25 (k _ _ ⟨rfl, (((((Keep.refl h0 [a1]).wr W8 (mI 0)).wr W12 (mI 0)).wr W16 (mI 0)).wr W20 (mI 0)), (F17.wr W20), (fS (fS (fS F8 W12 (lB hw 91) (lB hw 93)) W16 (lB hw 91) (lB hw 95)) W20 (lB hw 91) (lB hw 97)), (fS (fS F12 W16 (lB hw 93) (lB hw 95)) W20 (lB hw 93) (lB hw 97)), (fS F16 W20 (lB hw 95) (lB hw 97)), F20, (fS (fS (fS (fS f25 W8 (lA hw 176) (lB hw 91)) W12 (lA hw 176) (lB hw 93)) W16 (lA hw 176) (lB hw 95)) W20 (lA hw 176) (lB hw 97))⟩)
set_option maxRecDepth 65536 in
set_option maxHeartbeats 40000000 in
theorem rm17_1 {a1 : Addr} (hw : HW a0 Z) :
    own_M l Z h0 yM12 c17 1 none 1 0 0 12 #[VR a1] (fun v h => v = none ∧ h0 = h) := by
  refine own_ent hw (plainFor_of_name pn17) #[SR a1] (fun _ => rfl) fun Q k => ?_
  exact jLa d17_0 rfl (jiO 0 126 18 19 d17_1 (jrV d17_4 (k _ _ ⟨rfl, rfl⟩)))
set_option maxRecDepth 65536 in
set_option maxHeartbeats 40000000 in
theorem rm16_1 {a1 : Addr} {p4 : Int32} (hw : HW a0 Z) (f3 : Exa Z h0 a1 cC21) (f5 : Fld Z h0 a1 cC22 "modCount" "I" (VI p4)) (f6 : Z.heap.size ≤ a1) (f9 : Fld Z h0 a1 cC21 "elementData" cC1 (.null)) (f11 : Fld Z h0 a1 cC21 "size" "I" (VI 0)) :
    own_M l Z h0 yM13 c16 1 none 2 0 0 24 #[VR a1] (fun v h => v = none ∧ Keep h0 h [a1] ∧ Exa Z h a1 cC21 ∧ Fld Z h a1 cC22 "modCount" "I" (VI 0) ∧ Fld Z h a1 cC21 "elementData" cC1 (.null) ∧ Fld Z h a1 cC21 "size" "I" (VI 0)) := by
  refine own_ent hw (plainFor_of_name pn16) #[SR a1] (fun _ => rfl) fun Q k => ?_
  refine jLa d16_0 rfl (jcI 0 120 121 124 125 (rm17_1 hw) pd0 d16_1 rfl ?_)
  rintro _ _ ⟨rfl, rfl⟩
  refine jLa d16_4 rfl (jkI 0 d16_5 rfl (jpFI 127 128 109 f5 f3 f6 d16_6 fun h7 W7 F7 => ?_))
  exact jrV d16_9 (k _ _ ⟨rfl, ((Keep.refl h0 [a1]).wr W7 (mI 0)), (f3.wr W7), F7, (fS f9 W7 (lA hw 131) (lA hw 128)), (fS f11 W7 (lA hw 142) (lA hw 128))⟩)
set_option maxRecDepth 65536 in
set_option maxHeartbeats 40000000 in
theorem rm15_1 {a1 : Addr} {p3 : Int32} {a9 : Addr} (hw : HW a0 Z) (f2 : Exa Z h0 a1 cC21) (f4 : Fld Z h0 a1 cC22 "modCount" "I" (VI p3)) (f5 : Z.heap.size ≤ a1) (f6 : Fld Z h0 a1 cC21 "elementData" cC1 (.null)) (f7 : Fld Z h0 a1 cC21 "size" "I" (VI 0)) (f10 : Sta Z Z.heap cC21 "DEFAULTCAPACITY_EMPTY_ELEMENTDATA" cC1 (VR a9)) :
    own_M l Z h0 yM14 c15 1 none 3 0 0 36 #[VR a1] (fun v h => v = none ∧ Keep h0 h [a1] ∧ Exa Z h a1 cC21 ∧ Fld Z h a1 cC22 "modCount" "I" (VI 0) ∧ Fld Z h a1 cC21 "elementData" cC1 (VR a9) ∧ Fld Z h a1 cC21 "size" "I" (VI 0)) := by
  refine own_ent hw (plainFor_of_name pn15) #[SR a1] (fun _ => rfl) fun Q k => ?_
  refine jLa d15_0 rfl (jcI 0 114 115 118 119 (rm16_1 hw f2 f4 f5 f6 f7) pd0 d15_1 rfl ?_)
  rintro _ h8 ⟨rfl, K8, o0_8, o1_8, o2_8, o3_8⟩
  refine jLa d15_4 rfl (jgS 129 f10 d15_5 (jpFR 130 131 109 o2_8 o0_8 f5 d15_8 fun h11 W11 F11 => ?_))
  exact jrV d15_11 (k _ _ ⟨rfl, (((Keep.refl h0 [a1]).trans K8 (allS (mI 0) all0)).wr W11 (mI 0)), (o0_8.wr W11), (fS o1_8 W11 (lA hw 128) (lA hw 131)), F11, (fS o3_8 W11 (lA hw 142) (lA hw 131))⟩)
set_option maxRecDepth 65536 in
set_option maxHeartbeats 40000000 in
theorem rm14_1 {a1 a2 a7 : Addr} (hw : HW a0 Z) (f8 : Sta Z Z.heap cC21 "DEFAULTCAPACITY_EMPTY_ELEMENTDATA" cC1 (VR a7)) (f10 : Fld Z h0 a1 cC8 "exclusive" cC10 (.null)) (f13 : Fld Z h0 a1 cC8 "others" cC11 (.null)) :
    own_M l Z h0 yM15 c14 6 (some (.object cC23)) 4 1 3 49 #[VR a1, VR a2] (fun v h => ∃ (b3 : Addr), v = some (VR b3) ∧ Keep h0 h [] ∧ h0.size ≤ b3 ∧ Exa Z h b3 cC21 ∧ Fld Z h b3 cC22 "modCount" "I" (VI 0) ∧ Fld Z h b3 cC21 "elementData" cC1 (VR a7) ∧ Fld Z h b3 cC21 "size" "I" (VI 0)) := by
  refine own_ent hw (plainFor_of_name pn2) #[SR a1, SR a2, SU, SU, SU, SU] (fun _ => rfl) fun Q k => ?_
  refine jnew 108 109 110 d14_0 fun b3 h3 g3 u3 E3 A3 D3 => ?_
  refine jdU d14_3 rfl (jcI 1 111 112 110 113 (rm15_1 hw A3 (dI D3 (lA hw 128)) u3 (dN D3 (lA hw 131)) (dI D3 (lA hw 142)) f8) pd0 d14_4 rfl ?_)
  rintro _ h9 ⟨rfl, K9, o0_9, o1_9, o2_9, o3_9⟩
  have v11 := own_lo f10.lt g3
  exact jta d14_7 #[SR a1, SR a2, SR b3, SU, SU, SU] rfl (jLa d14_8 rfl (jgF 66 ((f10.ext E3).keep K9 (ninS v11 nin0)) d14_9 (jzY 26 d14_12 (jkI 1 d14_26 rfl (jti d14_27 #[SR a1, SR a2, SR b3, SI 1, SU, SU] rfl (jkI 0 d14_28 rfl (jtI d14_29 #[SR a1, SR a2, SR b3, SI 1, SI 0, SU] rfl (jLa d14_31 rfl (jgF 68 ((f13.ext E3).keep K9 (ninS v11 nin0)) d14_32 (jzY 136 d14_35 (jLa d14_136 rfl (jrA d14_137 (k _ _ ⟨b3, rfl, (((Keep.refl h0 []).ext E3).trans K9 (allS (Or.inr g3) all0)), g3, o0_9, o1_9, o2_9, o3_9⟩)))))))))))))
set_option maxRecDepth 65536 in
set_option maxHeartbeats 40000000 in
theorem rm18_1 {a1 : Addr} (hw : HW a0 Z) (f2 : Fld Z h0 a1 cC21 "size" "I" (VI 0)) :
    own_M l Z h0 yM16 c18 1 (some .boolean) 0 0 0 0 #[VR a1] (fun v h => v = some (VI 1) ∧ h0 = h) := by
  refine own_ent hw (plainFor_of_name pn15) #[SR a1] (fun _ => rfl) fun Q k => ?_
  exact jLa d18_0 rfl (jgF 141 f2 d18_1 (jineN d18_4 (by decide) (jkI 1 d18_7 rfl (jgo 12 d18_8 (jrZ d18_12 (k _ _ ⟨rfl, rfl⟩))))))
set_option maxRecDepth 65536 in
set_option maxHeartbeats 40000000 in
theorem rm13_1 {a1 a2 a4 : Addr} (hw : HW a0 Z) (f3 : Exa Z h0 a1 cC8) (f5 : Sta Z Z.heap cC21 "DEFAULTCAPACITY_EMPTY_ELEMENTDATA" cC1 (VR a4)) (f6 : Fld Z h0 a1 cC8 "exclusive" cC10 (.null)) (f7 : Fld Z h0 a1 cC8 "others" cC11 (.null)) :
    own_M l Z h0 yM17 c13 2 (some .boolean) 5 1 3 66 #[VR a1, VR a2] (fun v h => v = some (VI 1) ∧ Keep h0 h []) := by
  refine own_ent hw (plainFor_of_name pn2) #[SR a1, SR a2] (fun _ => rfl) fun Q k => ?_
  refine jLa d13_0 rfl (jLa d13_1 rfl (jcV 0 103 104 106 105 5 107 (nfS hw 106) (rm14_1 hw f5 f6 f7) f3 pd9 d13_2 rfl ?_))
  rintro _ h8 ⟨b3_8, rfl, K8, lob3_8, o0_8, o1_8, o2_8, o3_8⟩
  refine jcF 0 132 133 134 135 136 137 138 139 110 140 (rm18_1 hw o3_8) o0_8 pd5 d13_5 rfl ?_
  rintro _ _ ⟨rfl, rfl⟩
  exact jrZ d13_10 (k _ _ ⟨rfl, ((Keep.refl h0 []).trans K8 all0)⟩)
set_option maxRecDepth 65536 in
set_option maxHeartbeats 40000000 in
theorem rm21_1 {a1 : Addr} {p3 : Int32} (hw : HW a0 Z) (f2 : Exa Z h0 a1 cC21) (f4 : Fld Z h0 a1 cC22 "modCount" "I" (VI p3)) (f5 : Fld Z h0 a1 cC21 "elementData" cC1 (.null)) (f6 : Fld Z h0 a1 cC21 "size" "I" (VI 0)) (f7 : Z.heap.size ≤ a1) :
    own_M l Z h0 yM18 c21 2 none 3 1 2 36 #[VR a1, VI 2] (fun v h => ∃ (b9 : Addr) (k9 : ClassId), v = none ∧ Keep h0 h [a1] ∧ h0.size ≤ b9 ∧ Ovr Z k9 cC24 ∧ Exa Z h a1 cC21 ∧ Fld Z h a1 cC22 "modCount" "I" (VI 0) ∧ Fld Z h a1 cC21 "elementData" cC1 (VR b9) ∧ Fld Z h a1 cC21 "size" "I" (VI 0) ∧ Arv Z h b9 k9 (.object "java/lang/Object") 2 [.null, .null] (.null) ∧ Exa Z h b9 cC1) := by
  refine own_ent hw (plainFor_of_name pn15) #[SR a1, SI 2] (fun _ => rfl) fun Q k => ?_
  refine jLa d21_0 rfl (jcI 0 114 115 118 119 (rm16_1 hw f2 f4 f7 f5 f6) pd0 d21_1 rfl ?_)
  rintro _ h8 ⟨rfl, K8, o0_8, o1_8, o2_8, o3_8⟩
  refine jLi d21_4 rfl (jileN d21_5 (by decide) (jLa d21_8 rfl (jLi d21_9 rfl (jnewA 157 158 2 [.null, .null] cC1 d21_10 rfl fun b9 h9 k9 g9 u9 E9 V9 EA9 Ov9 => ?_))))
  have F10 := o0_8.ext E9
  refine jpFR 130 131 109 (o2_8.ext E9) F10 f7 d21_13 fun h12 W12 F12 => ?_
  have z17 := K8.1
  exact jgo 60 d21_16 (jrV d21_60 (k _ _ ⟨b9, k9, rfl, ((((Keep.refl h0 [a1]).trans K8 (allS (mI 0) all0)).ext E9).wr W12 (mI 0)), (Nat.le_trans z17 g9), Ov9, (F10.wr W12), (fS (o1_8.ext E9) W12 (lA hw 128) (lA hw 131)), F12, (fS (o3_8.ext E9) W12 (lA hw 142) (lA hw 131)), (V9.other W12 (own_lo f2.lt (Nat.le_trans z17 g9)).symm), (EA9.wr W12)⟩))
set_option maxRecDepth 65536 in
set_option maxHeartbeats 40000000 in
theorem rm20_1 {a1 a17 : Addr} (hw : HW a0 Z) (f2 : Fld Z h0 a1 cC8 "others" cC11 (.null)) (f8 : Exa Z h0 a1 cC8) (f12 : Z.heap.size ≤ a1) (f15 : Fld Z h0 a1 cC8 "exclusive" cC10 (.null)) (f18 : Fld Z h0 a1 cC8 "key" cC9 (VR a17)) (f20 : Fld Z h0 a1 cC8 "version" cC1 (.null)) :
    own_M l Z h0 yM19 c20 1 (some (.object cC23)) 4 2 5 51 #[VR a1] (fun v h => ∃ (b3 b9_7 : Addr) (k9_7 : ClassId), v = some (VR b3) ∧ Keep h0 h [a1] ∧ h0.size ≤ b3 ∧ h0.size ≤ b9_7 ∧ b3 ≠ b9_7 ∧ Ovr Z k9_7 cC24 ∧ Fld Z h a1 cC8 "others" cC11 (VR b3) ∧ Exa Z h a1 cC8 ∧ Fld Z h a1 cC8 "exclusive" cC10 (.null) ∧ Fld Z h a1 cC8 "key" cC9 (VR a17) ∧ Fld Z h a1 cC8 "version" cC1 (.null) ∧ Exa Z h b3 cC21 ∧ Fld Z h b3 cC22 "modCount" "I" (VI 0) ∧ Fld Z h b3 cC21 "elementData" cC1 (VR b9_7) ∧ Fld Z h b3 cC21 "size" "I" (VI 0) ∧ Arv Z h b9_7 k9_7 (.object "java/lang/Object") 2 [.null, .null] (.null) ∧ Exa Z h b9_7 cC1) := by
  refine own_ent hw (plainFor_of_name pn2) #[SR a1] (fun _ => rfl) fun Q k => ?_
  refine jLa d20_0 rfl (jgF 68 f2 d20_1 (jyN d20_4 (jLa d20_7 rfl (jnew 108 109 110 d20_8 fun b3 h3 g3 u3 E3 A3 D3 => ?_))))
  refine jdU d20_11 rfl (jkI 2 d20_12 rfl (jcI 2 154 155 110 156 (rm21_1 hw A3 (dI D3 (lA hw 128)) (dN D3 (lA hw 131)) (dI D3 (lA hw 142)) u3) pd11 d20_13 rfl ?_))
  rintro _ h7 ⟨b9_7, k9_7, rfl, K7, lob9_7, ovk9_7, o0_7, o1_7, o2_7, o3_7, o4_7, o5_7⟩
  have F9 := (f8.ext E3).keep K7
  have v10 := own_lo f2.lt g3
  refine jpFR 68 69 4 ((f2.ext E3).keep K7 (ninS v10 nin0)) F9 f12 d20_16 fun h13 W13 F13 => ?_
  have z27 := E3.1
  exact jLa d20_19 rfl (jgF 68 F13 d20_20 (jrA d20_23 (k _ _ ⟨b3, b9_7, k9_7, rfl, ((((Keep.refl h0 [a1]).ext E3).trans K7 (allS (Or.inr g3) all0)).wr W13 (mI 0)), g3, (Nat.le_trans z27 lob9_7), (own_lo A3.lt lob9_7), ovk9_7, F13, (F9.wr W13), (fS ((f15.ext E3).keep K7 (ninS v10 nin0)) W13 (lA hw 67) (lA hw 69)), (fS ((f18.ext E3).keep K7 (ninS v10 nin0)) W13 (lB hw 21) (lA hw 69)), (fS ((f20.ext E3).keep K7 (ninS v10 nin0)) W13 (lA hw 419) (lA hw 69)), (o0_7.wr W13), (fW o1_7 W13 v10.symm), (fW o2_7 W13 v10.symm), (fW o3_7 W13 v10.symm), (o4_7.other W13 (own_lo f2.lt (Nat.le_trans z27 lob9_7)).symm), (o5_7.wr W13)⟩)))
set_option maxRecDepth 65536 in
set_option maxHeartbeats 40000000 in
theorem rm23_1 {a1 a2 a3 : Addr} {k4 : ClassId} {p21 : Int32} (hw : HW a0 Z) (f5 : Arv Z h0 a3 k4 (.object "java/lang/Object") 2 [.null, .null] (.null)) (f6 : Z.heap.size ≤ a3) (f7 : Ovr Z k4 cC24) (f8 : Exa Z h0 a2 cC18) (f10 : Exa Z h0 a1 cC21) (f12 : Fld Z h0 a1 cC21 "size" "I" (VI 0)) (f13 : a1 ≠ a3) (f15 : Z.heap.size ≤ a1) (f18 : Exa Z h0 a3 cC1) (f22 : Fld Z h0 a1 cC22 "modCount" "I" (VI p21)) (f24 : Fld Z h0 a1 cC21 "elementData" cC1 (VR a3)) :
    own_M l Z h0 yM20 c23 4 none 0 0 0 0 #[VR a1, VR a2, VR a3, VI 0] (fun v h => v = none ∧ Keep h0 h [a3, a1] ∧ Arv Z h a3 k4 (.object "java/lang/Object") 2 [VR a2, .null] (.null) ∧ Exa Z h a3 cC1 ∧ Exa Z h a1 cC21 ∧ Fld Z h a1 cC21 "size" "I" (VI 1) ∧ Fld Z h a1 cC22 "modCount" "I" (VI p21) ∧ Fld Z h a1 cC21 "elementData" cC1 (VR a3)) := by
  refine own_ent hw (plainFor_of_name pn15) #[SR a1, SR a2, SR a3, SI 0] (fun _ => rfl) fun Q k => ?_
  refine jLi d23_0 rfl (jLa d23_1 rfl (jal f5 d23_2 (jcneY 11 d23_3 (by decide) (jLa d23_11 rfl (jLi d23_12 rfl (jLa d23_13 rfl (jsR f5 f7 (Ins.of_exa f8 (WW hw 174)) (by decide) f6 0 [VR a2, .null] d23_14 rfl rfl fun h9 W9 V9 => ?_)))))))
  have F11 := f10.wr W9
  refine jLa d23_15 rfl (jLi d23_16 rfl (jkI 1 d23_17 rfl (jiadd d23_18 (jpFI 141 142 109 (fW f12 W9 f13) F11 f15 d23_19 fun h16 W16 F16 => ?_))))
  exact jrV d23_22 (k _ _ ⟨rfl, (((Keep.refl h0 [a3, a1]).wr W9 (mI 0)).wr W16 (mI 1)), (V9.other W16 f13.symm), ((f18.wr W9).wr W16), (F11.wr W16), F16, (fS (fW f22 W9 f13) W16 (lA hw 128) (lA hw 142)), (fS (fW f24 W9 f13) W16 (lA hw 131) (lA hw 142))⟩)
set_option maxRecDepth 65536 in
set_option maxHeartbeats 40000000 in
theorem rm22_1 {a1 a2 : Addr} {p3 : Int32} {a8 : Addr} {k14 : ClassId} (hw : HW a0 Z) (f4 : Fld Z h0 a1 cC22 "modCount" "I" (VI p3)) (f5 : Exa Z h0 a1 cC21) (f6 : Z.heap.size ≤ a1) (f9 : Fld Z h0 a1 cC21 "elementData" cC1 (VR a8)) (f12 : Fld Z h0 a1 cC21 "size" "I" (VI 0)) (f15 : Arv Z h0 a8 k14 (.object "java/lang/Object") 2 [.null, .null] (.null)) (f16 : a8 ≠ a1) (f18 : Z.heap.size ≤ a8) (f19 : Ovr Z k14 cC24) (f20 : Exa Z h0 a2 cC18) (f22 : Exa Z h0 a8 cC1) :
    own_M l Z h0 yM21 c22 2 (some .boolean) 1 0 0 15 #[VR a1, VR a2] (fun v h => v = some (VI 1) ∧ Keep h0 h [a1, a8] ∧ Exa Z h a1 cC21 ∧ Fld Z h a1 cC21 "size" "I" (VI 1) ∧ Fld Z h a1 cC22 "modCount" "I" (VI (p3 + (1 : Int32))) ∧ Fld Z h a1 cC21 "elementData" cC1 (VR a8) ∧ Exa Z h a8 cC1 ∧ Arv Z h a8 k14 (.object "java/lang/Object") 2 [VR a2, .null] (.null)) := by
  refine own_ent hw (plainFor_of_name pn15) #[SR a1, SR a2] (fun _ => rfl) fun Q k => ?_
  refine jLa d22_0 rfl (jdU d22_1 rfl (jgV 167 168 f4 d22_2 (jkI 1 d22_5 rfl (jiadd d22_6 (jpVI 167 128 109 168 f4 f5 f6 d22_7 fun h7 W7 F7 => ?_)))))
  have F10 := f5.wr W7
  have F11 := fS f9 W7 (lA hw 131) (lA hw 128)
  have F13 := fS f12 W7 (lA hw 142) (lA hw 128)
  refine jLa d22_10 rfl (jLa d22_11 rfl (jLa d22_12 rfl (jgF 130 F11 d22_13 (jLa d22_16 rfl (jgF 141 F13 d22_17 (jcP 0 169 109 171 170 110 173 (rm23_1 hw (f15.other W7 f16) f18 f19 (f20.wr W7) F10 F13 f16.symm f6 (f22.wr W7) F7 F11) F10 pd13 d22_20 rfl ?_))))))
  rintro _ h24 ⟨rfl, K24, o0_24, o1_24, o2_24, o3_24, o4_24, o5_24⟩
  exact jkI 1 d22_23 rfl (jrZ d22_24 (k _ _ ⟨rfl, (((Keep.refl h0 [a1, a8]).wr W7 (mI 0)).trans K24 (allS (mI 1) (allS (mI 0) all0))), o2_24, o3_24, o4_24, o5_24, o1_24, o0_24⟩))
set_option maxRecDepth 65536 in
set_option maxHeartbeats 40000000 in
theorem rm19_1 {a1 a2 a3 a5 a12 a40 : Addr} (hw : HW a0 Z) (f4 : Fld Z h0 a2 cC18 "mode" cC3 (VR a3)) (f6 : Sta Z Z.heap cC2 "EXCLUSIVE" cC3 (VR a5)) (f7 : a3 ≠ a5) (f8 : Fld Z h0 a1 cC8 "others" cC11 (.null)) (f9 : Exa Z h0 a1 cC8) (f10 : Z.heap.size ≤ a1) (f11 : Fld Z h0 a1 cC8 "exclusive" cC10 (.null)) (f13 : Fld Z h0 a1 cC8 "key" cC9 (VR a12)) (f14 : Fld Z h0 a1 cC8 "version" cC1 (.null)) (f18 : Exa Z h0 a2 cC18) (f22 : Fld Z h0 a2 cC18 "granted" "Z" (VI 0)) (f23 : a2 ≠ a1) (f27 : Z.heap.size ≤ a2) (f38 : Fld Z h0 a2 cC18 "row" cC19 (VR a1)) (f41 : Fld Z h0 a2 cC18 "transaction" cC10 (VR a40)) (f43 : Fld Z h0 a2 cC18 "first" "Z" (VI 1)) :
    own_M l Z h0 yM22 c19 3 none 5 2 5 63 #[VR a1, VR a2] (fun v h => ∃ (b3_15 b9_7_15 : Addr) (k9_7_15 : ClassId), v = none ∧ Keep h0 h [a1, a2] ∧ h0.size ≤ b3_15 ∧ h0.size ≤ b9_7_15 ∧ b3_15 ≠ b9_7_15 ∧ Ovr Z k9_7_15 cC24 ∧ Exa Z h a1 cC8 ∧ Fld Z h a1 cC8 "others" cC11 (VR b3_15) ∧ Fld Z h a1 cC8 "exclusive" cC10 (.null) ∧ Fld Z h a1 cC8 "key" cC9 (VR a12) ∧ Fld Z h a1 cC8 "version" cC1 (.null) ∧ Fld Z h a2 cC18 "mode" cC3 (VR a3) ∧ Exa Z h a2 cC18 ∧ Fld Z h a2 cC18 "granted" "Z" (VI 1) ∧ Fld Z h a2 cC18 "row" cC19 (VR a1) ∧ Fld Z h a2 cC18 "transaction" cC10 (VR a40) ∧ Fld Z h a2 cC18 "first" "Z" (VI 1) ∧ Exa Z h b3_15 cC21 ∧ Fld Z h b3_15 cC21 "size" "I" (VI 1) ∧ Fld Z h b3_15 cC22 "modCount" "I" (VI 1) ∧ Fld Z h b3_15 cC21 "elementData" cC1 (VR b9_7_15) ∧ Exa Z h b9_7_15 cC1 ∧ Arv Z h b9_7_15 k9_7_15 (.object "java/lang/Object") 2 [VR a2, .null] (.null)) := by
  refine own_ent hw (plainFor_of_name pn2) #[SR a1, SR a2, SU] (fun _ => rfl) fun Q k => ?_
  refine own_z fun Z0 => ?_
  refine jLa d19_0 rfl (jgR 147 f4 d19_1 (jgS 148 f6 d19_4 (jac 59 d19_7 (own_dn f7) (jLa d19_59 rfl (jgF 68 f8 d19_60 (jzY 79 d19_63 (jLa d19_79 rfl (jcP 0 150 4 152 151 5 153 (rm20_1 hw f8 f9 f10 f11 f13 f14) f9 pd12 d19_80 rfl ?_))))))))
  rintro _ h15 ⟨b3_15, b9_7_15, k9_7_15, rfl, K15, lob3_15, lob9_7_15, neb3b9_7_15, ovk9_7_15, o0_15, o1_15, o2_15, o3_15, o4_15, o5_15, o6_15, o7_15, o8_15, o9_15, o10_15⟩
  have F19 := f18.keep K15
  refine jLa d19_83 rfl (jcF 0 159 160 161 162 163 164 165 139 110 166 (rm22_1 hw o6_15 o5_15 (Nat.le_trans Z0 lob3_15) o7_15 o8_15 o9_15 neb3b9_7_15.symm (Nat.le_trans Z0 lob9_7_15) ovk9_7_15 F19 o10_15) o5_15 pd14 d19_84 rfl ?_)
  rintro _ h20 ⟨rfl, K20, o0_20, o1_20, o2_20, o3_20, o4_20, o5_20⟩
  have F21 := F19.keep K20
  have v24 := own_lo f4.lt lob9_7_15
  have v25 := own_lo f4.lt lob3_15
  refine jpO d19_89 rfl (jLa d19_90 rfl (jkI 1 d19_91 rfl (jpRZ 175 176 76 ((f22.keep K15 (ninS f23 nin0)).keep K20 (ninS v25 (ninS v24 nin0))) F21 f27 d19_92 fun h28 W28 F28 => ?_)))
  have v30 := own_lo f8.lt lob9_7_15
  have v31 := own_lo f8.lt lob3_15
  exact jrV d19_95 (k _ _ ⟨b3_15, b9_7_15, k9_7_15, rfl, ((((Keep.refl h0 [a1, a2]).trans K15 (allS (mI 0) all0)).trans K20 (allS (Or.inr lob3_15) (allS (Or.inr lob9_7_15) all0))).wr W28 (mI 1)), lob3_15, lob9_7_15, neb3b9_7_15, ovk9_7_15, ((o1_15.keep K20).wr W28), (fW (o0_15.keep K20 (ninS v31 (ninS v30 nin0))) W28 f23.symm), (fW (o2_15.keep K20 (ninS v31 (ninS v30 nin0))) W28 f23.symm), (fW (o3_15.keep K20 (ninS v31 (ninS v30 nin0))) W28 f23.symm), (fW (o4_15.keep K20 (ninS v31 (ninS v30 nin0))) W28 f23.symm), (fS ((f4.keep K15 (ninS f23 nin0)).keep K20 (ninS v25 (ninS v24 nin0))) W28 (lB hw 95) (lA hw 176)), (F21.wr W28), F28, (fS ((f38.keep K15 (ninS f23 nin0)).keep K20 (ninS v25 (ninS v24 nin0))) W28 (lB hw 91) (lA hw 176)), (fS ((f41.keep K15 (ninS f23 nin0)).keep K20 (ninS v25 (ninS v24 nin0))) W28 (lB hw 93) (lA hw 176)), (fS ((f43.keep K15 (ninS f23 nin0)).keep K20 (ninS v25 (ninS v24 nin0))) W28 (lB hw 97) (lA hw 176)), (o0_20.wr W28), (fW o1_20 W28 v25.symm), (fW o2_20 W28 v25.symm), (fW o3_20 W28 v25.symm), (o4_20.wr W28), (o5_20.other W28 v24.symm)⟩)
set_option maxRecDepth 65536 in
set_option maxHeartbeats 40000000 in
theorem rm18_2 {a1 : Addr} (hw : HW a0 Z) (f2 : Fld Z h0 a1 cC21 "size" "I" (VI 1)) :
    own_M l Z h0 yM16 c18 1 (some .boolean) 0 0 0 0 #[VR a1] (fun v h => v = some (VI 0) ∧ h0 = h) := by
  refine own_ent hw (plainFor_of_name pn15) #[SR a1] (fun _ => rfl) fun Q k => ?_
  exact jLa d18_0 rfl (jgF 141 f2 d18_1 (jineY 11 d18_4 (by decide) (jkI 0 d18_11 rfl (jrZ d18_12 (k _ _ ⟨rfl, rfl⟩)))))
set_option maxRecDepth 65536 in
set_option maxHeartbeats 40000000 in
theorem rm24_1 {a1 a2 : Addr} (hw : HW a0 Z) (f3 : Fld Z h0 a1 cC8 "others" cC11 (VR a2)) (f4 : Exa Z h0 a2 cC21) (f5 : Fld Z h0 a2 cC21 "size" "I" (VI 1)) :
    own_M l Z h0 yM23 c24 1 none 1 0 0 12 #[VR a1] (fun v h => v = none ∧ h0 = h) := by
  refine own_ent hw (plainFor_of_name pn2) #[SR a1] (fun _ => rfl) fun Q k => ?_
  refine jLa d24_0 rfl (jgF 68 f3 d24_1 (jzN d24_4 (jLa d24_7 rfl (jgF 68 f3 d24_8 (jcF 0 132 133 134 135 136 137 138 139 110 140 (rm18_2 hw f5) f4 pd5 d24_11 rfl ?_)))))
  rintro _ _ ⟨rfl, rfl⟩
  exact jieqY 24 d24_16 (by decide) (jrV d24_24 (k _ _ ⟨rfl, rfl⟩))
set_option maxRecDepth 65536 in
set_option maxHeartbeats 40000000 in
theorem rm9_1 {a1 a2 a3 a24 a29 a35 : Addr} (hw : HW a0 Z) (f10 : Exa Z h0 a1 cC8) (f12 : Fld Z h0 a1 cC8 "exclusive" cC10 (.null)) (f14 : Fld Z h0 a1 cC8 "others" cC11 (.null)) (f20 : Sta Z Z.heap cC2 "SHARED" cC3 (VR a3)) (f25 : Sta Z Z.heap cC21 "DEFAULTCAPACITY_EMPTY_ELEMENTDATA" cC1 (VR a24)) (f30 : Sta Z Z.heap cC2 "EXCLUSIVE" cC3 (VR a29)) (f31 : a3 ≠ a29) (f33 : Z.heap.size ≤ a1) (f36 : Fld Z h0 a1 cC8 "key" cC9 (VR a35)) (f38 : Fld Z h0 a1 cC8 "version" cC1 (.null)) :
    own_M l Z h0 yM24 c9 4 (some (.object cC18)) 6 4 13 79 #[VR a1, VR a2, VR a3] (fun v h => ∃ (b4 b3_15_45 b9_7_15_45 : Addr) (k9_7_15_45 : ClassId), v = some (VR b4) ∧ Keep h0 h [a1] ∧ h0.size ≤ b4 ∧ h0.size ≤ b3_15_45 ∧ h0.size ≤ b9_7_15_45 ∧ b4 ≠ b3_15_45 ∧ b4 ≠ b9_7_15_45 ∧ b3_15_45 ≠ b9_7_15_45 ∧ Ovr Z k9_7_15_45 cC24 ∧ Exa Z h a1 cC8 ∧ Fld Z h a1 cC8 "others" cC11 (VR b3_15_45) ∧ Fld Z h a1 cC8 "exclusive" cC10 (.null) ∧ Fld Z h a1 cC8 "key" cC9 (VR a35) ∧ Fld Z h a1 cC8 "version" cC1 (.null) ∧ Exa Z h b4 cC18 ∧ Fld Z h b4 cC18 "mode" cC3 (VR a3) ∧ Fld Z h b4 cC18 "granted" "Z" (VI 1) ∧ Fld Z h b4 cC18 "row" cC19 (VR a1) ∧ Fld Z h b4 cC18 "transaction" cC10 (VR a2) ∧ Fld Z h b4 cC18 "first" "Z" (VI 1) ∧ Exa Z h b3_15_45 cC21 ∧ Fld Z h b3_15_45 cC21 "size" "I" (VI 1) ∧ Fld Z h b3_15_45 cC22 "modCount" "I" (VI 1) ∧ Fld Z h b3_15_45 cC21 "elementData" cC1 (VR b9_7_15_45) ∧ Exa Z h b9_7_15_45 cC1 ∧ Arv Z h b9_7_15_45 k9_7_15_45 (.object "java/lang/Object") 2 [VR b4, .null] (.null)) := by
  refine own_ent hw (plainFor_of_name pn2) #[SR a1, SR a2, SR a3, SU] (fun _ => rfl) fun Q k => ?_
  refine jnew 75 76 77 d9_0 fun b4 h4 g4 u4 E4 A4 D4 => ?_
  have F11 := f10.ext E4
  have F13 := f12.ext E4
  have F15 := f14.ext E4
  refine jdU d9_3 rfl (jLa d9_4 rfl (jLa d9_5 rfl (jLa d9_6 rfl (jLa d9_7 rfl (jLa d9_8 rfl (jcP 5 78 4 80 79 5 81 (rm10_1 hw F13 F11 F15) F11 pd7 d9_9 rfl ?_))))))
  rintro _ _ ⟨rfl, rfl⟩
  refine jineN d9_12 (by decide) (jkI 1 d9_15 rfl (jgo 20 d9_16 (jcR 1 86 87 77 88 (rm12_1 hw A4 (dN D4 (lB hw 91)) u4 (dN D4 (lB hw 93)) (dN D4 (lB hw 95)) (dZ D4 (lB hw 97)) (dZ D4 (lA hw 176))) pd8 d9_20 rfl ?_)))
  rintro _ h17 ⟨rfl, K17, o0_17, o1_17, o2_17, o3_17, o4_17, o5_17⟩
  have v18 := own_lo f10.lt g4
  have F19 := F13.keep K17 (ninS v18 nin0)
  have F21 := F11.keep K17
  have F22 := F15.keep K17 (ninS v18 nin0)
  refine jta d9_23 #[SR a1, SR a2, SR a3, SR b4] rfl (jLa d9_24 rfl (jgF 66 F19 d9_25 (jLa d9_28 rfl (jac 32 d9_29 (decide_eq_false nofun) (jLa d9_32 rfl (jgS 98 f20 d9_33 (jac 39 d9_36 (decide_eq_true rfl) (jLa d9_39 rfl (jLa d9_40 rfl (jcP 0 82 4 84 83 5 85 (rm11_1 hw F22) F21 pd6 d9_41 rfl ?_))))))))))
  rintro _ _ ⟨rfl, rfl⟩
  refine jzY 55 d9_44 (jLa d9_55 rfl (jLa d9_56 rfl (jcP 0 99 4 101 100 5 102 (rm13_1 hw F21 f25 F19 F22) F21 pd10 d9_57 rfl ?_)))
  rintro _ h26 ⟨rfl, K26⟩
  have F27 := F21.keep K26
  refine jieqN d9_60 (by decide) (jLa d9_63 rfl (jLa d9_64 rfl (jcP 0 143 4 145 144 5 146 (rm19_1 hw (o3_17.keep K26 nin0) f30 f31 (F22.keep K26 nin0) F27 f33 (F19.keep K26 nin0) (((f36.ext E4).keep K17 (ninS v18 nin0)).keep K26 nin0) (((f38.ext E4).keep K17 (ninS v18 nin0)).keep K26 nin0) (o0_17.keep K26) (o5_17.keep K26 nin0) v18.symm u4 (o1_17.keep K26 nin0) (o2_17.keep K26 nin0) (o4_17.keep K26 nin0)) F27 pd15 d9_65 rfl ?_)))
  rintro _ h45 ⟨b3_15_45, b9_7_15_45, k9_7_15_45, rfl, K45, lob3_15_45, lob9_7_15_45, neb3_15b9_7_15_45, ovk9_7_15_45, o0_45, o1_45, o2_45, o3_45, o4_45, o5_45, o6_45, o7_45, o8_45, o9_45, o10_45, o11_45, o12_45, o13_45, o14_45, o15_45, o16_45⟩
  refine jgo 82 d9_68 (jLa d9_82 rfl (jcP 0 177 4 179 178 5 180 (rm24_1 hw o1_45 o11_45 o12_45) o0_45 pd0 d9_83 rfl ?_))
  rintro _ _ ⟨rfl, rfl⟩
  have z49 := Nat.le_trans K17.1 K26.1
  have z53 := Nat.le_trans (Nat.le_trans E4.1 K17.1) K26.1
  exact jLa d9_86 rfl (jrA d9_87 (k _ _ ⟨b4, b3_15_45, b9_7_15_45, k9_7_15_45, rfl, (((((Keep.refl h0 [a1]).ext E4).trans K17 (allS (Or.inr g4) all0)).trans K26 all0).trans K45 (allS (mI 0) (allS (Or.inr g4) all0))), g4, (Nat.le_trans z53 lob3_15_45), (Nat.le_trans z53 lob9_7_15_45), (own_lo A4.lt (Nat.le_trans z49 lob3_15_45)), (own_lo A4.lt (Nat.le_trans z49 lob9_7_15_45)), neb3_15b9_7_15_45, ovk9_7_15_45, o0_45, o1_45, o2_45, o3_45, o4_45, o6_45, o5_45, o7_45, o8_45, o9_45, o10_45, o11_45, o12_45, o13_45, o14_45, o15_45, o16_45⟩))
set_option maxRecDepth 65536 in
set_option maxHeartbeats 40000000 in
theorem rm8_2 {a1 a3 : Addr} (hw : HW a0 Z) (f2 : Fld Z h0 a1 cC8 "exclusive" cC10 (.null)) (f4 : Fld Z h0 a1 cC8 "others" cC11 (VR a3)) :
    own_M l Z h0 yM8 c8 1 (some .boolean) 0 0 0 0 #[VR a1] (fun v h => v = some (VI 0) ∧ h0 = h) := by
  refine own_ent hw (plainFor_of_name pn2) #[SR a1] (fun _ => rfl) fun Q k => ?_
  exact jLa d8_0 rfl (jgF 66 f2 d8_1 (jyN d8_4 (jLa d8_7 rfl (jgF 68 f4 d8_8 (jyY 18 d8_11 (jkI 0 d8_18 rfl (jrZ d8_19 (k _ _ ⟨rfl, rfl⟩))))))))
set_option maxRecDepth 65536 in
set_option maxHeartbeats 40000000 in
theorem rm27_1 {a1 a2 : Addr} {p13 : Int32} (hw : HW a0 Z) (f3 : Exa Z h0 a1 cC25) (f4 : Fld Z h0 a1 cC25 "this$0" cC26 (.null)) (f5 : Z.heap.size ≤ a1) (f8 : Fld Z h0 a1 cC25 "lastRet" "I" (VI 0)) (f14 : Fld Z h0 a2 cC22 "modCount" "I" (VI p13)) (f15 : a2 ≠ a1) (f17 : Fld Z h0 a1 cC25 "expectedModCount" "I" (VI 0)) (f23 : Fld Z h0 a1 cC25 "cursor" "I" (VI 0)) :
    own_M l Z h0 yM25 c27 2 none 1 0 0 12 #[VR a1, VR a2] (fun v h => v = none ∧ Keep h0 h [a1] ∧ Exa Z h a1 cC25 ∧ Fld Z h a1 cC25 "this$0" cC26 (VR a2) ∧ Fld Z h a1 cC25 "lastRet" "I" (VI (-1)) ∧ Fld Z h a1 cC25 "expectedModCount" "I" (VI p13) ∧ Fld Z h a1 cC25 "cursor" "I" (VI 0)) := by
  refine own_ent hw (plainFor_of_name pn27) #[SR a1, SR a2] (fun _ => rfl) fun Q k => ?_
  refine jLa d27_0 rfl (jLa d27_1 rfl (jpLR 201 202 195 f4 f3 f5 d27_2 fun h6 W6 F6 => ?_))
  have F7 := f3.wr W6
  refine jLa d27_5 rfl (jiO 0 203 18 19 d27_6 (jLa d27_9 rfl (jkI (-1) d27_10 rfl (jpFI 204 205 195 (fS f8 W6 (lA hw 205) (lB hw 202)) F7 f5 d27_11 fun h10 W10 F10 => ?_))))
  have F11 := F7.wr W10
  have F12 := fS F6 W10 (lB hw 202) (lA hw 205)
  refine jLa d27_14 rfl (jLa d27_15 rfl (jgF 201 F12 d27_16 (jgV 206 168 (fW (fW f14 W6 f15) W10 f15) d27_19 (jpFI 207 208 195 (fS (fS f17 W6 (lA hw 208) (lB hw 202)) W10 (lA hw 208) (lA hw 205)) F11 f5 d27_22 fun h19 W19 F19 => ?_))))
  exact jrV d27_25 (k _ _ ⟨rfl, ((((Keep.refl h0 [a1]).wr W6 (mI 0)).wr W10 (mI 0)).wr W19 (mI 0)), (F11.wr W19), (fS F12 W19 (lB hw 202) (lA hw 208)), (fS F10 W19 (lA hw 205) (lA hw 208)), F19, (fS (fS (fS f23 W6 (lA hw 219) (lB hw 202)) W10 (lA hw 219) (lA hw 205)) W19 (lA hw 219) (lA hw 208))⟩)
set_option maxRecDepth 65536 in
set_option maxHeartbeats 40000000 in
theorem rm26_1 {a1 : Addr} {p7 : Int32} (hw : HW a0 Z) (f8 : Fld Z h0 a1 cC22 "modCount" "I" (VI p7)) :
    own_M l Z h0 yM26 c26 1 (some (.object cC27)) 2 1 4 26 #[VR a1] (fun v h => ∃ (b2 : Addr), v = some (VR b2) ∧ Keep h0 h [] ∧ h0.size ≤ b2 ∧ Exa Z h b2 cC25 ∧ Fld Z h b2 cC25 "this$0" cC26 (VR a1) ∧ Fld Z h b2 cC25 "lastRet" "I" (VI (-1)) ∧ Fld Z h b2 cC25 "expectedModCount" "I" (VI p7) ∧ Fld Z h b2 cC25 "cursor" "I" (VI 0)) := by
  refine own_ent hw (plainFor_of_name pn15) #[SR a1] (fun _ => rfl) fun Q k => ?_
  refine jnew 194 195 196 d26_0 fun b2 h2 g2 u2 E2 A2 D2 => ?_
  refine jdU d26_3 rfl (jLa d26_4 rfl (jcI 1 197 198 196 200 (rm27_1 hw A2 (dN D2 (lB hw 202)) u2 (dI D2 (lA hw 205)) (f8.ext E2) (own_lo f8.lt g2) (dI D2 (lA hw 208)) (dI D2 (lA hw 219))) pd17 d26_5 rfl ?_))
  rintro _ h11 ⟨rfl, K11, o0_11, o1_11, o2_11, o3_11, o4_11⟩
  exact jrA d26_8 (k _ _ ⟨b2, rfl, (((Keep.refl h0 []).ext E2).trans K11 (allS (Or.inr g2) all0)), g2, o0_11, o1_11, o2_11, o3_11, o4_11⟩)
set_option maxRecDepth 65536 in
set_option maxHeartbeats 40000000 in
theorem rm28_1 {a1 a3 : Addr} (hw : HW a0 Z) (f2 : Fld Z h0 a1 cC25 "cursor" "I" (VI 0)) (f4 : Fld Z h0 a1 cC25 "this$0" cC26 (VR a3)) (f5 : Fld Z h0 a3 cC21 "size" "I" (VI 1)) :
    own_M l Z h0 yM27 c28 1 (some .boolean) 0 0 0 0 #[VR a1] (fun v h => v = some (VI 1) ∧ h0 = h) := by
  refine own_ent hw (plainFor_of_name pn27) #[SR a1] (fun _ => rfl) fun Q k => ?_
  exact jLa d28_0 rfl (jgF 218 f2 d28_1 (jLa d28_4 rfl (jgF 201 f4 d28_5 (jgN 220 f5 d28_8 (jceqN d28_11 (by decide) (jkI 1 d28_14 rfl (jgo 19 d28_15 (jrZ d28_19 (k _ _ ⟨rfl, rfl⟩)))))))))
set_option maxRecDepth 65536 in
set_option maxHeartbeats 40000000 in
theorem rm30_1 {a1 a2 : Addr} {p4 : Int32} (hw : HW a0 Z) (f3 : Fld Z h0 a1 cC25 "this$0" cC26 (VR a2)) (f5 : Fld Z h0 a2 cC22 "modCount" "I" (VI p4)) (f6 : Fld Z h0 a1 cC25 "expectedModCount" "I" (VI p4)) :
    own_M l Z h0 yM28 c30 1 none 0 0 0 0 #[VR a1] (fun v h => v = none ∧ h0 = h) := by
  refine own_ent hw (plainFor_of_name pn27) #[SR a1] (fun _ => rfl) fun Q k => ?_
  exact jLa d30_0 rfl (jgF 201 f3 d30_1 (jgV 206 168 f5 d30_4 (jLa d30_7 rfl (jgF 207 f6 d30_8 (jceqY 22 d30_11 rfl (jrV d30_22 (k _ _ ⟨rfl, rfl⟩)))))))
set_option maxRecDepth 65536 in
set_option maxHeartbeats 40000000 in
theorem rm29_1 {a1 a3 : Addr} {p5 : Int32} {a11 : Addr} {k13 : ClassId} {a14 : Addr} (hw : HW a0 Z) (f2 : Exa Z h0 a1 cC25) (f4 : Fld Z h0 a1 cC25 "this$0" cC26 (VR a3)) (f6 : Fld Z h0 a3 cC22 "modCount" "I" (VI p5)) (f7 : Fld Z h0 a1 cC25 "expectedModCount" "I" (VI p5)) (f9 : Fld Z h0 a1 cC25 "cursor" "I" (VI 0)) (f10 : Fld Z h0 a3 cC21 "size" "I" (VI 1)) (f12 : Fld Z h0 a3 cC21 "elementData" cC1 (VR a11)) (f15 : Arv Z h0 a11 k13 (.object "java/lang/Object") 2 [VR a14, .null] (.null)) (f16 : Z.heap.size ≤ a1) (f19 : Fld Z h0 a1 cC25 "lastRet" "I" (VI (-1))) (f22 : a11 ≠ a1) :
    own_M l Z h0 yM29 c29 3 (some (.object cC24)) 1 0 0 12 #[VR a1] (fun v h => v = some (VR a14) ∧ Keep h0 h [a1] ∧ Exa Z h a1 cC25 ∧ Fld Z h a1 cC25 "this$0" cC26 (VR a3) ∧ Fld Z h a1 cC25 "expectedModCount" "I" (VI p5) ∧ Fld Z h a1 cC25 "cursor" "I" (VI 1) ∧ Fld Z h a1 cC25 "lastRet" "I" (VI 0)) := by
  refine own_ent hw (plainFor_of_name pn27) #[SR a1, SU, SU] (fun _ => rfl) fun Q k => ?_
  refine jLa d29_0 rfl (jcV 0 229 230 232 231 196 233 (nfS hw 232) (rm30_1 hw f4 f6 f7) f2 pd0 d29_1 rfl ?_)
  rintro _ _ ⟨rfl, rfl⟩
  refine jLa d29_4 rfl (jgF 218 f9 d29_5 (jti d29_8 #[SR a1, SI 0, SU] rfl (jLi d29_9 rfl (jLa d29_10 rfl (jgF 201 f4 d29_11 (jgN 220 f10 d29_14 (jcltY 28 d29_17 (by decide) (jLa d29_28 rfl (jgF 201 f4 d29_29 (jgF 234 f12 d29_32 (jta d29_35 #[SR a1, SI 0, SR a11] rfl (jLi d29_36 rfl (jLa d29_37 rfl (jal f15 d29_38 (jcltY 50 d29_39 (by decide) ?_)))))))))))))))
  refine jLa d29_50 rfl (jLi d29_51 rfl (jkI 1 d29_52 rfl (jiadd d29_53 (jpFI 218 219 195 f9 f2 f16 d29_54 fun h17 W17 F17 => ?_))))
  have F18 := f2.wr W17
  refine jLa d29_57 rfl (jLa d29_58 rfl (jLi d29_59 rfl (jdX d29_60 rfl rfl (jpFI 204 205 195 (fS f19 W17 (lA hw 205) (lA hw 219)) F18 f16 d29_61 fun h21 W21 F21 => ?_))))
  exact jaa ((f15.other W17 f22).other W21 f22) (by decide) (VR a14) rfl d29_64 (jrA d29_65 (k _ _ ⟨rfl, (((Keep.refl h0 [a1]).wr W17 (mI 0)).wr W21 (mI 0)), (F18.wr W21), (fS (fS f4 W17 (lB hw 202) (lA hw 219)) W21 (lB hw 202) (lA hw 205)), (fS (fS f7 W17 (lA hw 208) (lA hw 219)) W21 (lA hw 208) (lA hw 205)), (fS F17 W21 (lA hw 219) (lA hw 205)), F21⟩))
set_option maxRecDepth 65536 in
set_option maxHeartbeats 40000000 in
theorem rm28_2 {a1 a3 : Addr} (hw : HW a0 Z) (f2 : Fld Z h0 a1 cC25 "cursor" "I" (VI 1)) (f4 : Fld Z h0 a1 cC25 "this$0" cC26 (VR a3)) (f5 : Fld Z h0 a3 cC21 "size" "I" (VI 1)) :
    own_M l Z h0 yM27 c28 1 (some .boolean) 0 0 0 0 #[VR a1] (fun v h => v = some (VI 0) ∧ h0 = h) := by
  refine own_ent hw (plainFor_of_name pn27) #[SR a1] (fun _ => rfl) fun Q k => ?_
  exact jLa d28_0 rfl (jgF 218 f2 d28_1 (jLa d28_4 rfl (jgF 201 f4 d28_5 (jgN 220 f5 d28_8 (jceqY 18 d28_11 (by decide) (jkI 0 d28_18 rfl (jrZ d28_19 (k _ _ ⟨rfl, rfl⟩))))))))
set_option maxRecDepth 65536 in
set_option maxHeartbeats 40000000 in
theorem rm11_2 {a1 a2 a3 : Addr} {p6 : Int32} {a13 : Addr} {k16 : ClassId} {a17 a28 : Addr} (hw : HW a0 Z) (f4 : Fld Z h0 a1 cC8 "others" cC11 (VR a3)) (f5 : Exa Z h0 a3 cC21) (f7 : Fld Z h0 a3 cC22 "modCount" "I" (VI p6)) (f9 : Fld Z h0 a3 cC21 "size" "I" (VI 1)) (f14 : Fld Z h0 a3 cC21 "elementData" cC1 (VR a13)) (f18 : Arv Z h0 a13 k16 (.object "java/lang/Object") 2 [VR a17, .null] (.null)) (f23 : Exa Z h0 a17 cC18) (f25 : Fld Z h0 a17 cC18 "granted" "Z" (VI 1)) (f29 : Fld Z h0 a17 cC18 "transaction" cC10 (VR a28)) (f31 : a28 ≠ a2) :
    own_M l Z h0 yM9 c11 5 (some (.object cC18)) 3 1 4 38 #[VR a1, VR a2] (fun v h => v = some (.null) ∧ Keep h0 h []) := by
  refine own_ent hw (plainFor_of_name pn2) #[SR a1, SR a2, SU, SU, SU] (fun _ => rfl) fun Q k => ?_
  refine own_z fun Z0 => ?_
  refine jkN d11_0 (jnta d11_1 #[SR a1, SR a2, SN, SU, SU] rfl (jLa d11_2 rfl (jgF 68 f4 d11_3 (jzN d11_6 (jLa d11_9 rfl (jgF 68 f4 d11_10 (jcF 0 186 187 188 189 190 191 192 139 110 193 (rm26_1 hw f7) f5 pd18 d11_13 rfl ?_)))))))
  rintro _ h8 ⟨b2_8, rfl, K8, lob2_8, o0_8, o1_8, o2_8, o3_8, o4_8⟩
  have F10 := f9.keep K8 nin0
  refine jta d11_18 #[SR a1, SR a2, SN, SR b2_8, SU] rfl (jLa d11_19 rfl (jcF 0 209 210 211 212 213 214 215 216 196 217 (rm28_1 hw o4_8 o1_8 F10) o0_8 pd5 d11_20 rfl ?_))
  rintro _ _ ⟨rfl, rfl⟩
  refine jieqN d11_25 (by decide) (jLa d11_28 rfl (jcF 0 221 222 223 224 225 226 227 216 196 228 (rm29_1 hw o0_8 o1_8 (f7.keep K8 nin0) o3_8 o4_8 F10 (f14.keep K8 nin0) (f18.keep K8 nin0) (Nat.le_trans Z0 lob2_8) o2_8 (own_lo f18.lt lob2_8)) o0_8 pd19 d11_29 rfl ?_))
  rintro _ h22 ⟨rfl, K22, o0_22, o1_22, o2_22, o3_22, o4_22⟩
  have v26 := own_lo f23.lt lob2_8
  refine jcY 75 (Ins.self ((f23.keep K8).keep K22)) d11_34 (jtA d11_37 #[SR a1, SR a2, SN, SR b2_8, SR a17] rfl (jLA d11_39 rfl (jgR 175 ((f25.keep K8 nin0).keep K22 (ninS v26 nin0)) d11_41 (jieqN d11_44 (by decide) (jLA d11_47 rfl (jgR 236 ((f29.keep K8 nin0).keep K22 (ninS v26 nin0)) d11_49 (jLa d11_52 rfl (jac 70 d11_53 (own_dn f31) (jgo 19 d11_70 (jLa d11_19 rfl (jcF 0 209 210 211 212 213 214 215 216 196 217 (rm28_2 hw o3_22 o1_22 (F10.keep K22 (ninS (own_lo f5.lt lob2_8) nin0))) o0_22 pd5 d11_20 rfl ?_)))))))))))
  rintro _ _ ⟨rfl, rfl⟩
  exact jieqY 73 d11_25 (by decide) (jnLa d11_73 rfl (jrAn d11_74 (k _ _ ⟨rfl, (((Keep.refl h0 []).trans K8 all0).trans K22 (allS (Or.inr lob2_8) all0))⟩)))
set_option maxRecDepth 65536 in
set_option maxHeartbeats 40000000 in
theorem rm37_1 {p1 p2 : Int32} (hw : HW a0 Z) (f3 : p2 < p1) :
    own_M l Z h0 yM31 c37 2 (some .int) 0 0 0 0 #[VI p1, VI p2] (fun v h => v = some (VI p2) ∧ h0 = h) := by
  refine own_ent hw (Jvm.Free.JP.mathPlain rfl (by decide +kernel)) #[SI p1, SI p2] (fun _ => rfl) fun Q k => ?_
  exact jLi d37_0 rfl (jLi d37_1 rfl (jcgtY 9 d37_2 f3 (jLi d37_9 rfl (jrI d37_10 (k _ _ ⟨rfl, rfl⟩)))))
set_option maxRecDepth 65536 in
set_option maxHeartbeats 40000000 in
theorem rm36_1 {a1 a2 : Addr} {k5 : ClassId} {a6 : Addr} (hw : HW a0 Z) (f3 : own_Mir Z cC1 a2) (f7 : Arv Z h0 a1 k5 (.object "java/lang/Object") 2 [VR a6, .null] (.null)) (f10 : Exa Z h0 a6 cC18) :
    own_M l Z h0 yM32 c36 4 (some (.array (.object "java/lang/Object"))) 1 1 1 18 #[VR a1, VI 1, VR a2] (fun v h => ∃ (b4 : Addr) (k4 : ClassId), v = some (VR b4) ∧ Keep h0 h [] ∧ h0.size ≤ b4 ∧ Ovr Z k4 cC24 ∧ Arv Z h b4 k4 (.object "java/lang/Object") 1 [VR a6] (.null) ∧ Exa Z h b4 cC1) := by
  refine own_ent hw (plainFor_of_name pn35) #[SR a1, SI 1, SR a2, SU] (fun _ => rfl) fun Q k => ?_
  refine jLa d36_0 rfl (jld 281 f3 d36_1 (jac 6 d36_3 (decide_eq_true rfl) (jLi d36_6 rfl (jnewA 282 158 1 [.null] cC1 d36_7 rfl fun b4 h4 k4 g4 u4 E4 V4 EA4 Ov4 => ?_))))
  have F8 := f7.ext E4
  refine jgo 24 d36_10 (jta d36_24 #[SR a1, SI 1, SR a2, SR b4] rfl (jLa d36_25 rfl (jkI 0 d36_26 rfl (jLa d36_27 rfl (jkI 0 d36_28 rfl (jLa d36_29 rfl (jal F8 d36_30 (jLi d36_31 rfl (jcS 4 283 284 285 286 (rm37_1 hw (by decide)) pd20 d36_32 rfl ?_)))))))))
  rintro _ _ ⟨rfl, rfl⟩
  refine jcp [VR a6] [VR a6] 0 287 290 288 289 F8 V4 ⟨stV V4 Ov4 (Ins.of_exa (f10.ext E4) (WW hw 174)), trivial⟩ u4 d36_35 rfl fun h12 K12 V12 => ?_
  exact jLa d36_38 rfl (jrB d36_39 (k _ _ ⟨b4, k4, rfl, (((Keep.refl h0 []).ext E4).trans K12 (allS (Or.inr g4) all0)), g4, Ov4, V12, (EA4.keep K12)⟩))
set_option maxRecDepth 65536 in
set_option maxHeartbeats 40000000 in
theorem rm35_1 {a1 a3 : Addr} {k5 : ClassId} {a6 : Addr} (hw : HW a0 Z) (f2 : Exa Z h0 a1 cC1) (f4 : own_Mir Z cC1 a3) (f7 : Arv Z h0 a1 k5 (.object "java/lang/Object") 2 [VR a6, .null] (.null)) (f8 : Exa Z h0 a6 cC18) :
    own_M l Z h0 yM33 c35 2 (some (.array (.object "java/lang/Object"))) 2 1 1 33 #[VR a1, VI 1] (fun v h => ∃ (b4_9 : Addr) (k4_9 : ClassId), v = some (VR b4_9) ∧ Keep h0 h [] ∧ h0.size ≤ b4_9 ∧ Ovr Z k4_9 cC24 ∧ Arv Z h b4_9 k4_9 (.object "java/lang/Object") 1 [VR a6] (.null) ∧ Exa Z h b4_9 cC1) := by
  refine own_ent hw (plainFor_of_name pn35) #[SR a1, SI 1] (fun _ => rfl) fun Q k => ?_
  refine jLa d35_0 rfl (jLi d35_1 rfl (jLa d35_2 rfl (jgC 2 272 273 275 274 276 f2 f4 (nfT hw 253) d35_3 (jcS 0 278 279 270 280 (rm36_1 hw f4 f7 f8) pd21 d35_6 rfl ?_))))
  rintro _ h9 ⟨b4_9, k4_9, rfl, K9, lob4_9, ovk4_9, o0_9, o1_9⟩
  exact jrB d35_9 (k _ _ ⟨b4_9, k4_9, rfl, ((Keep.refl h0 []).trans K9 all0), lob4_9, ovk4_9, o0_9, o1_9⟩)
set_option maxRecDepth 65536 in
set_option maxHeartbeats 40000000 in
theorem rm34_1 {a1 a2 a6 : Addr} {k8 : ClassId} {a9 : Addr} (hw : HW a0 Z) (f3 : Fld Z h0 a1 cC21 "elementData" cC1 (VR a2)) (f4 : Fld Z h0 a1 cC21 "size" "I" (VI 1)) (f5 : Exa Z h0 a2 cC1) (f7 : own_Mir Z cC1 a6) (f10 : Arv Z h0 a2 k8 (.object "java/lang/Object") 2 [VR a9, .null] (.null)) (f11 : Exa Z h0 a9 cC18) :
    own_M l Z h0 yM34 c34 1 (some (.array (.object "java/lang/Object"))) 3 1 1 46 #[VR a1] (fun v h => ∃ (b4_9_12 : Addr) (k4_9_12 : ClassId), v = some (VR b4_9_12) ∧ Keep h0 h [] ∧ h0.size ≤ b4_9_12 ∧ Ovr Z k4_9_12 cC24 ∧ Arv Z h b4_9_12 k4_9_12 (.object "java/lang/Object") 1 [VR a9] (.null) ∧ Exa Z h b4_9_12 cC1) := by
  refine own_ent hw (plainFor_of_name pn15) #[SR a1] (fun _ => rfl) fun Q k => ?_
  refine jLa d34_0 rfl (jgF 130 f3 d34_1 (jLa d34_4 rfl (jgF 141 f4 d34_5 (jcS 0 268 269 270 271 (rm35_1 hw f5 f7 f10 f11) pd22 d34_8 rfl ?_))))
  rintro _ h12 ⟨b4_9_12, k4_9_12, rfl, K12, lob4_9_12, ovk4_9_12, o0_12, o1_12⟩
  exact jrB d34_11 (k _ _ ⟨b4_9_12, k4_9_12, rfl, ((Keep.refl h0 []).trans K12 all0), lob4_9_12, ovk4_9_12, o0_12, o1_12⟩)
set_option maxRecDepth 65536 in
set_option maxHeartbeats 40000000 in
theorem rm41_1 {a1 : Addr} (hw : HW a0 Z) :
    own_M l Z h0 yM35 c41 1 none 2 0 0 24 #[VR a1] (fun v h => v = none ∧ h0 = h) := by
  refine own_ent hw (plainFor_of_name pn41) #[SR a1] (fun _ => rfl) fun Q k => ?_
  refine jLa d41_0 rfl (jcI 0 313 121 124 125 (rm17_1 hw) pd0 d41_1 rfl ?_)
  rintro _ _ ⟨rfl, rfl⟩
  exact jrV d41_4 (k _ _ ⟨rfl, rfl⟩)
set_option maxRecDepth 65536 in
set_option maxHeartbeats 40000000 in
theorem rm40_1 {a1 : Addr} (hw : HW a0 Z) :
    own_M l Z h0 yM36 c40 1 none 3 0 0 36 #[VR a1] (fun v h => v = none ∧ h0 = h) := by
  refine own_ent hw (plainFor_of_name pn40) #[SR a1] (fun _ => rfl) fun Q k => ?_
  refine jLa d40_0 rfl (jcI 0 307 308 311 312 (rm41_1 hw) pd0 d40_1 rfl ?_)
  rintro _ _ ⟨rfl, rfl⟩
  exact jrV d40_4 (k _ _ ⟨rfl, rfl⟩)
set_option maxRecDepth 65536 in
set_option maxHeartbeats 40000000 in
theorem rm42_1 {a1 : Addr} (hw : HW a0 Z) :
    own_M l Z h0 yM37 c42 1 (some (.object cC24)) 0 0 0 0 #[VR a1] (fun v h => v = some (VR a1) ∧ h0 = h) := by
  refine own_ent hw (plainFor_of_name pn42) #[SR a1] (fun _ => rfl) fun Q k => ?_
  exact jLa d42_0 rfl (jyY 12 d42_1 (jLa d42_12 rfl (jrA d42_13 (k _ _ ⟨rfl, rfl⟩))))
set_option maxRecDepth 65536 in
set_option maxHeartbeats 40000000 in
theorem rm39_1 {a1 a2 a9 : Addr} (hw : HW a0 Z) (f5 : Exa Z h0 a1 cC33) (f6 : Fld Z h0 a1 cC33 "e0" cC9 (.null)) (f7 : Z.heap.size ≤ a1) (f10 : Sta Z Z.heap cC34 "EMPTY" cC9 (VR a9)) (f12 : Fld Z h0 a1 cC33 "e1" cC9 (.null)) :
    own_M l Z h0 yM38 c39 2 none 4 0 0 48 #[VR a1, VR a2] (fun v h => v = none ∧ Keep h0 h [a1] ∧ Exa Z h a1 cC33 ∧ Fld Z h a1 cC33 "e0" cC9 (VR a2) ∧ Fld Z h a1 cC33 "e1" cC9 (VR a9)) := by
  refine own_ent hw (plainFor_of_name pn39) #[SR a1, SR a2] (fun _ => rfl) fun Q k => ?_
  refine jLa d39_0 rfl (jcI 0 301 302 305 306 (rm40_1 hw) pd0 d39_1 rfl ?_)
  rintro _ _ ⟨rfl, rfl⟩
  refine jLa d39_4 rfl (jLa d39_5 rfl (jcS 1 315 316 317 318 (rm42_1 hw) pd24 d39_6 rfl ?_))
  rintro _ _ ⟨rfl, rfl⟩
  refine jpLR 319 320 295 f6 f5 f7 d39_9 fun h8 W8 F8 => ?_
  have F11 := f5.wr W8
  refine jLa d39_12 rfl (jgM 321 f10 d39_13 (jpLR 322 323 295 (fS f12 W8 (lB hw 323) (lB hw 320)) F11 f7 d39_16 fun h14 W14 F14 => ?_))
  exact jrV d39_19 (k _ _ ⟨rfl, (((Keep.refl h0 [a1]).wr W8 (mI 0)).wr W14 (mI 0)), (F11.wr W14), (fS F8 W14 (lB hw 320) (lB hw 323)), F14⟩)
set_option maxRecDepth 65536 in
set_option maxHeartbeats 40000000 in
theorem rm38_1 {a1 : Addr} {k2 : ClassId} {a3 a9 : Addr} (hw : HW a0 Z) (f4 : Arv Z h0 a1 k2 (.object "java/lang/Object") 1 [VR a3] (.null)) (f10 : Sta Z Z.heap cC34 "EMPTY" cC9 (VR a9)) :
    own_M l Z h0 yM39 c38 2 (some (.object cC23)) 5 1 2 62 #[VR a1] (fun v h => ∃ (b5 : Addr), v = some (VR b5) ∧ Keep h0 h [] ∧ h0.size ≤ b5 ∧ Exa Z h b5 cC33 ∧ Fld Z h b5 cC33 "e0" cC9 (VR a3) ∧ Fld Z h b5 cC33 "e1" cC9 (VR a9)) := by
  refine own_ent hw (plainFor_of_name pn32) #[SR a1, SU] (fun _ => rfl) fun Q k => ?_
  refine jLa d38_0 rfl (jal f4 d38_1 (jtw 34 d38_2 (by decide) rfl (jnew 294 295 296 d38_34 fun b5 h5 g5 u5 E5 A5 D5 => ?_)))
  refine jdU d38_37 rfl (jLa d38_38 rfl (jkI 0 d38_39 rfl (jaa (f4.ext E5) (by decide) (VR a3) rfl d38_40 (jcI 1 297 298 296 300 (rm39_1 hw A5 (dN D5 (lB hw 320)) u5 f10 (dN D5 (lB hw 323))) pd3 d38_41 rfl ?_))))
  rintro _ h11 ⟨rfl, K11, o0_11, o1_11, o2_11⟩
  exact jrA d38_44 (k _ _ ⟨b5, rfl, (((Keep.refl h0 []).ext E5).trans K11 (allS (Or.inr g5) all0)), g5, o0_11, o1_11, o2_11⟩)
set_option maxRecDepth 65536 in
set_option maxHeartbeats 40000000 in
theorem rm33_1 {a1 a5 a8 : Addr} {k10 : ClassId} {a11 a15 : Addr} (hw : HW a0 Z) (f2 : Exa Z h0 a1 cC21) (f3 : Fld Z h0 a1 cC21 "size" "I" (VI 1)) (f6 : Fld Z h0 a1 cC21 "elementData" cC1 (VR a5)) (f7 : Exa Z h0 a5 cC1) (f9 : own_Mir Z cC1 a8) (f12 : Arv Z h0 a5 k10 (.object "java/lang/Object") 2 [VR a11, .null] (.null)) (f13 : Exa Z h0 a11 cC18) (f16 : Sta Z Z.heap cC34 "EMPTY" cC9 (VR a15)) :
    own_M l Z h0 yM40 c33 2 (some (.object cC23)) 6 2 3 75 #[VR a1] (fun v h => ∃ (b5_17 : Addr), v = some (VR b5_17) ∧ Keep h0 h [] ∧ h0.size ≤ b5_17 ∧ Exa Z h b5_17 cC33 ∧ Fld Z h b5_17 cC33 "e0" cC9 (VR a11) ∧ Fld Z h b5_17 cC33 "e1" cC9 (VR a15)) := by
  refine own_ent hw (plainFor_of_name pn33) #[SR a1, SU] (fun _ => rfl) fun Q k => ?_
  refine jLa d33_0 rfl (jiN 249 f2 (own_NSno (WW hw 250) (own_ordI (WW hw 295)) (NS.step (WW hw 250) (NS.step (WW hw 251) (NS.step (WW hw 252) (own_NSroot (WW hw 253) (own_ordI (WW hw 295)) (by decide)) (by decide)) (by decide)) (by decide)) (by decide)) d33_1 (jineN d33_4 (by decide) (jLa d33_7 rfl (jiN 254 f2 (own_NSno (WW hw 250) (own_ordS (y := yM30) (WW hw 396)) (NS.step (WW hw 250) (NS.step (WW hw 251) (NS.step (WW hw 252) (own_NSroot (WW hw 253) (own_ordS (y := yM30) (WW hw 396)) (by decide)) (by decide)) (by decide)) (by decide)) (by decide)) d33_8 (jieqY 31 d33_11 (by decide) (jLa d33_31 rfl (jcF 0 255 256 257 258 136 137 138 259 110 140 (rm18_2 hw f3) f2 pd5 d33_32 rfl ?_)))))))
  rintro _ _ ⟨rfl, rfl⟩
  refine jieqY 44 d33_37 (by decide) (jLa d33_44 rfl (jcF 0 260 261 262 263 264 265 266 259 110 267 (rm34_1 hw f6 f3 f7 f9 f12 f13) f2 pd23 d33_45 rfl ?_))
  rintro _ h14 ⟨b4_9_12_14, k4_9_12_14, rfl, K14, lob4_9_12_14, ovk4_9_12_14, o0_14, o1_14⟩
  refine jcS 0 291 292 243 293 (rm38_1 hw o0_14 f16) pd25 d33_50 rfl ?_
  rintro _ h17 ⟨b5_17, rfl, K17, lob5_17, o0_17, o1_17, o2_17⟩
  exact jrA d33_53 (k _ _ ⟨b5_17, rfl, (((Keep.refl h0 []).trans K14 all0).trans K17 all0), (Nat.le_trans K14.1 lob5_17), o0_17, o1_17, o2_17⟩)
set_option maxRecDepth 65536 in
set_option maxHeartbeats 40000000 in
theorem rm32_1 {a1 a4 a7 : Addr} {k9 : ClassId} {a10 a13 : Addr} (hw : HW a0 Z) (f2 : Exa Z h0 a1 cC21) (f3 : Fld Z h0 a1 cC21 "size" "I" (VI 1)) (f5 : Fld Z h0 a1 cC21 "elementData" cC1 (VR a4)) (f6 : Exa Z h0 a4 cC1) (f8 : own_Mir Z cC1 a7) (f11 : Arv Z h0 a4 k9 (.object "java/lang/Object") 2 [VR a10, .null] (.null)) (f12 : Exa Z h0 a10 cC18) (f14 : Sta Z Z.heap cC34 "EMPTY" cC9 (VR a13)) :
    own_M l Z h0 yM41 c32 1 (some (.object cC23)) 7 2 3 88 #[VR a1] (fun v h => ∃ (b5_17_15 : Addr), v = some (VR b5_17_15) ∧ Keep h0 h [] ∧ h0.size ≤ b5_17_15 ∧ Exa Z h b5_17_15 cC33 ∧ Fld Z h b5_17_15 cC33 "e0" cC9 (VR a10) ∧ Fld Z h b5_17_15 cC33 "e1" cC9 (VR a13)) := by
  refine own_ent hw (plainFor_of_name pn32) #[SR a1] (fun _ => rfl) fun Q k => ?_
  refine jLa d32_0 rfl (jcS 0 245 246 247 248 (rm33_1 hw f2 f3 f5 f6 f8 f11 f12 f14) pd26 d32_1 rfl ?_)
  rintro _ h15 ⟨b5_17_15, rfl, K15, lob5_17_15, o0_15, o1_15, o2_15⟩
  exact jrA d32_4 (k _ _ ⟨b5_17_15, rfl, ((Keep.refl h0 []).trans K15 all0), lob5_17_15, o0_15, o1_15, o2_15⟩)
set_option maxRecDepth 65536 in
set_option maxHeartbeats 40000000 in
theorem rm44_1 {a1 a2 : Addr} (hw : HW a0 Z) (f3 : Fld Z h0 a1 cC33 "e1" cC9 (VR a2)) (f4 : Sta Z Z.heap cC34 "EMPTY" cC9 (VR a2)) :
    own_M l Z h0 yM42 c44 1 (some .int) 0 0 0 0 #[VR a1] (fun v h => v = some (VI 1) ∧ h0 = h) := by
  refine own_ent hw (plainFor_of_name pn39) #[SR a1] (fun _ => rfl) fun Q k => ?_
  exact jLa d44_0 rfl (jgF 322 f3 d44_1 (jgM 321 f4 d44_4 (jac 14 d44_7 (decide_eq_true rfl) (jkI 1 d44_14 rfl (jrI d44_15 (k _ _ ⟨rfl, rfl⟩))))))
set_option maxRecDepth 65536 in
set_option maxHeartbeats 40000000 in
theorem rm45_1 {a1 a2 : Addr} {p3 : Int32} (hw : HW a0 Z) (f4 : Exa Z h0 a1 cC35) (f5 : Fld Z h0 a1 cC35 "list" cC11 (.null)) (f6 : Z.heap.size ≤ a1) (f9 : Fld Z h0 a1 cC35 "size" "I" (VI 0)) (f13 : Fld Z h0 a1 cC35 "cursor" "I" (VI 0)) (f17 : Fld Z h0 a1 cC35 "isListIterator" "Z" (VI 0)) :
    own_M l Z h0 yM43 c45 3 none 1 0 0 12 #[VR a1, VR a2, VI p3] (fun v h => v = none ∧ Keep h0 h [a1] ∧ Exa Z h a1 cC35 ∧ Fld Z h a1 cC35 "list" cC11 (VR a2) ∧ Fld Z h a1 cC35 "size" "I" (VI p3) ∧ Fld Z h a1 cC35 "cursor" "I" (VI 0) ∧ Fld Z h a1 cC35 "isListIterator" "Z" (VI 0)) := by
  refine own_ent hw (plainFor_of_name pn45) #[SR a1, SR a2, SI p3] (fun _ => rfl) fun Q k => ?_
  refine jLa d45_0 rfl (jiO 0 343 18 19 d45_1 (jLa d45_4 rfl (jLa d45_5 rfl (jpLR 344 345 331 f5 f4 f6 d45_6 fun h7 W7 F7 => ?_))))
  have F8 := f4.wr W7
  refine jLa d45_9 rfl (jLi d45_10 rfl (jpLI 346 347 331 (fS f9 W7 (lB hw 347) (lB hw 345)) F8 f6 d45_11 fun h11 W11 F11 => ?_))
  have F12 := F8.wr W11
  refine jLa d45_14 rfl (jkI 0 d45_15 rfl (jpFI 348 349 331 (fS (fS f13 W7 (lA hw 349) (lB hw 345)) W11 (lA hw 349) (lB hw 347)) F12 f6 d45_16 fun h15 W15 F15 => ?_))
  have F16 := F12.wr W15
  refine jLa d45_19 rfl (jkI 0 d45_20 rfl (jpLZ 350 351 331 (fS (fS (fS f17 W7 (lB hw 351) (lB hw 345)) W11 (lB hw 351) (lB hw 347)) W15 (lB hw 351) (lA hw 349)) F16 f6 d45_21 fun h19 W19 F19 => ?_))
  exact jrV d45_24 (k _ _ ⟨rfl, (((((Keep.refl h0 [a1]).wr W7 (mI 0)).wr W11 (mI 0)).wr W15 (mI 0)).wr W19 (mI 0)), (F16.wr W19), (fS (fS (fS F7 W11 (lB hw 345) (lB hw 347)) W15 (lB hw 345) (lA hw 349)) W19 (lB hw 345) (lB hw 351)), (fS (fS F11 W15 (lB hw 347) (lA hw 349)) W19 (lB hw 347) (lB hw 351)), (fS F15 W19 (lA hw 349) (lB hw 351)), F19⟩)
set_option maxRecDepth 65536 in
set_option maxHeartbeats 40000000 in
theorem rm43_1 {a1 a9 : Addr} (hw : HW a0 Z) (f7 : Exa Z h0 a1 cC33) (f10 : Fld Z h0 a1 cC33 "e1" cC9 (VR a9)) (f12 : Sta Z Z.heap cC34 "EMPTY" cC9 (VR a9)) :
    own_M l Z h0 yM44 c43 1 (some (.object cC27)) 2 1 4 27 #[VR a1] (fun v h => ∃ (b2 : Addr), v = some (VR b2) ∧ Keep h0 h [] ∧ h0.size ≤ b2 ∧ Exa Z h b2 cC35 ∧ Fld Z h b2 cC35 "list" cC11 (VR a1) ∧ Fld Z h b2 cC35 "size" "I" (VI 1) ∧ Fld Z h b2 cC35 "cursor" "I" (VI 0) ∧ Fld Z h b2 cC35 "isListIterator" "Z" (VI 0)) := by
  refine own_ent hw (plainFor_of_name pn40) #[SR a1] (fun _ => rfl) fun Q k => ?_
  refine jnew 330 331 332 d43_0 fun b2 h2 g2 u2 E2 A2 D2 => ?_
  refine jdU d43_3 rfl (jLa d43_4 rfl (jLa d43_5 rfl (jcU 3 333 334 335 336 337 296 338 (rm44_1 hw (f10.ext E2) f12) (f7.ext E2) pd27 d43_6 rfl ?_)))
  rintro _ _ ⟨rfl, rfl⟩
  refine jcI 1 339 340 332 342 (rm45_1 hw A2 (dN D2 (lB hw 345)) u2 (dI D2 (lB hw 347)) (dI D2 (lA hw 349)) (dZ D2 (lB hw 351))) pd28 d43_9 rfl ?_
  rintro _ h14 ⟨rfl, K14, o0_14, o1_14, o2_14, o3_14, o4_14⟩
  exact jrA d43_12 (k _ _ ⟨b2, rfl, (((Keep.refl h0 []).ext E2).trans K14 (allS (Or.inr g2) all0)), g2, o0_14, o1_14, o2_14, o3_14, o4_14⟩)
set_option maxRecDepth 65536 in
set_option maxHeartbeats 40000000 in
theorem rm46_1 {a1 : Addr} (hw : HW a0 Z) (f2 : Fld Z h0 a1 cC35 "cursor" "I" (VI 0)) (f3 : Fld Z h0 a1 cC35 "size" "I" (VI 1)) :
    own_M l Z h0 yM45 c46 1 (some .boolean) 0 0 0 0 #[VR a1] (fun v h => v = some (VI 1) ∧ h0 = h) := by
  refine own_ent hw (plainFor_of_name pn45) #[SR a1] (fun _ => rfl) fun Q k => ?_
  exact jLa d46_0 rfl (jgF 348 f2 d46_1 (jLa d46_4 rfl (jgF 346 f3 d46_5 (jceqN d46_8 (by decide) (jkI 1 d46_11 rfl (jgo 16 d46_12 (jrZ d46_16 (k _ _ ⟨rfl, rfl⟩))))))))
set_option maxRecDepth 65536 in
set_option maxHeartbeats 40000000 in
theorem rm48_1 {a1 : Addr} {p2 : Int32} {a4 : Addr} (hw : HW a0 Z) (f3 : p2 = (0 : Int32)) (f5 : Fld Z h0 a1 cC33 "e0" cC9 (VR a4)) :
    own_M l Z h0 yM46 c48 2 (some (.object cC24)) 0 0 0 0 #[VR a1, VI p2] (fun v h => v = some (VR a4) ∧ h0 = h) := by
  refine own_ent hw (plainFor_of_name pn39) #[SR a1, SI p2] (fun _ => rfl) fun Q k => ?_
  exact jLi d48_0 rfl (jineN d48_1 f3 (jLa d48_4 rfl (jgF 319 f5 d48_5 (jrA d48_8 (k _ _ ⟨rfl, rfl⟩)))))
set_option maxRecDepth 65536 in
set_option maxHeartbeats 40000000 in
theorem rm47_1 {a1 a3 a6 : Addr} (hw : HW a0 Z) (f2 : Fld Z h0 a1 cC35 "cursor" "I" (VI 0)) (f4 : Fld Z h0 a1 cC35 "list" cC11 (VR a3)) (f5 : Exa Z h0 a3 cC33) (f7 : Fld Z h0 a3 cC33 "e0" cC9 (VR a6)) (f9 : Exa Z h0 a1 cC35) (f10 : Z.heap.size ≤ a1) (f14 : Fld Z h0 a1 cC35 "size" "I" (VI 1)) (f16 : Fld Z h0 a1 cC35 "isListIterator" "Z" (VI 0)) :
    own_MW l Z h0 yM47 c47 3 (some (.object cC24)) [((0 : Nat), (24 : Nat), (25 : Nat), (30 : Nat))] 1 0 0 13 #[VR a1] (fun v h => v = some (VR a6) ∧ Keep h0 h [a1] ∧ Fld Z h a1 cC35 "cursor" "I" (VI 1) ∧ Fld Z h a1 cC35 "list" cC11 (VR a3) ∧ Exa Z h a1 cC35 ∧ Fld Z h a1 cC35 "size" "I" (VI 1) ∧ Fld Z h a1 cC35 "isListIterator" "Z" (VI 0)) := by
  refine own_entW hw (plainFor_of_name pn45) #[SR a1, SU, SU] (fun _ => rfl) fun Q k => ?_
  refine jLa d47_0 rfl (jgF 348 f2 d47_1 (jti d47_4 #[SR a1, SI 0, SU] rfl (jLa d47_5 rfl (jgF 344 f4 d47_6 (jLi d47_9 rfl (jcF 0 363 364 365 366 367 368 369 328 296 370 (rm48_1 hw (by decide) f7) f5 pd29 d47_10 rfl ?_))))))
  rintro _ _ ⟨rfl, rfl⟩
  refine jta d47_15 #[SR a1, SI 0, SR a6] rfl (jLa d47_16 rfl (jLi d47_17 rfl (jkI 1 d47_18 rfl (jiadd d47_19 (jpFI 348 349 331 f2 f9 f10 d47_20 fun h11 W11 F11 => ?_)))))
  exact jLa d47_23 rfl (jrA d47_24 (k _ _ ⟨rfl, ((Keep.refl h0 [a1]).wr W11 (mI 0)), F11, (fS f4 W11 (lB hw 345) (lA hw 349)), (f9.wr W11), (fS f14 W11 (lB hw 347) (lA hw 349)), (fS f16 W11 (lB hw 351) (lA hw 349))⟩))
set_option maxRecDepth 65536 in
set_option maxHeartbeats 40000000 in
theorem rm46_2 {a1 : Addr} (hw : HW a0 Z) (f2 : Fld Z h0 a1 cC35 "cursor" "I" (VI 1)) (f3 : Fld Z h0 a1 cC35 "size" "I" (VI 1)) :
    own_M l Z h0 yM45 c46 1 (some .boolean) 0 0 0 0 #[VR a1] (fun v h => v = some (VI 0) ∧ h0 = h) := by
  refine own_ent hw (plainFor_of_name pn45) #[SR a1] (fun _ => rfl) fun Q k => ?_
  exact jLa d46_0 rfl (jgF 348 f2 d46_1 (jLa d46_4 rfl (jgF 346 f3 d46_5 (jceqY 15 d46_8 (by decide) (jkI 0 d46_15 rfl (jrZ d46_16 (k _ _ ⟨rfl, rfl⟩)))))))
set_option maxRecDepth 65536 in
set_option maxHeartbeats 40000000 in
theorem rm31_1 {a1 a2 a6 a9 : Addr} {k11 : ClassId} {a12 a15 : Addr} (hw : HW a0 Z) (f3 : Fld Z h0 a1 cC8 "others" cC11 (VR a2)) (f4 : Exa Z h0 a2 cC21) (f5 : Fld Z h0 a2 cC21 "size" "I" (VI 1)) (f7 : Fld Z h0 a2 cC21 "elementData" cC1 (VR a6)) (f8 : Exa Z h0 a6 cC1) (f10 : own_Mir Z cC1 a9) (f13 : Arv Z h0 a6 k11 (.object "java/lang/Object") 2 [VR a12, .null] (.null)) (f14 : Exa Z h0 a12 cC18) (f16 : Sta Z Z.heap cC34 "EMPTY" cC9 (VR a15)) (f26 : Fld Z h0 a12 cC18 "granted" "Z" (VI 1)) (f30 : Exa Z h0 a1 cC8) :
    own_M l Z h0 yM48 c31 4 (some .boolean) 8 3 7 100 #[VR a1] (fun v h => v = some (VI 0) ∧ Keep h0 h []) := by
  refine own_ent hw (plainFor_of_name pn2) #[SR a1, SU, SU, SU] (fun _ => rfl) fun Q k => ?_
  refine own_z fun Z0 => ?_
  refine jkI 0 d31_0 rfl (jti d31_1 #[SR a1, SI 0, SU, SU] rfl (jLa d31_2 rfl (jgF 68 f3 d31_3 (jzN d31_6 (jLa d31_9 rfl (jgF 68 f3 d31_10 (jcS 0 241 242 243 244 (rm32_1 hw f4 f5 f7 f8 f10 f13 f14 f16) pd26 d31_13 rfl ?_)))))))
  rintro _ h17 ⟨b5_17_15_17, rfl, K17, lob5_17_15_17, o0_17, o1_17, o2_17⟩
  refine jcF 0 186 187 188 324 325 326 327 328 305 329 (rm43_1 hw o0_17 o2_17 f16) o0_17 pd18 d31_16 rfl ?_
  rintro _ h18 ⟨b2_18, rfl, K18, lob2_18, o0_18, o1_18, o2_18, o3_18, o4_18⟩
  refine jta d31_21 #[SR a1, SI 0, SR b2_18, SU] rfl (jLa d31_22 rfl (jcF 0 209 210 211 352 353 354 355 356 332 357 (rm46_1 hw o3_18 o2_18) o0_18 pd5 d31_23 rfl ?_))
  rintro _ _ ⟨rfl, rfl⟩
  have z23 := K17.1
  refine jieqN d31_28 (by decide) (jLa d31_31 rfl (jcG 0 221 222 223 358 359 360 361 356 332 362 (rm47_1 hw o3_18 o1_18 (o0_17.keep K18) (o1_17.keep K18 nin0) o0_18 (Nat.le_trans Z0 (Nat.le_trans z23 lob2_18)) o2_18 o4_18) o0_18 pd19 d31_32 rfl ?_))
  rintro _ h24 ⟨rfl, K24, o0_24, o1_24, o2_24, o3_24, o4_24⟩
  refine jcY 75 (Ins.self (((f14.keep K17).keep K18).keep K24)) d31_37 (jta d31_40 #[SR a1, SI 0, SR b2_18, SR a12] rfl (jLa d31_41 rfl (jgR 175 (((f26.keep K17 nin0).keep K18 nin0).keep K24 (ninS (own_lo f14.lt (Nat.le_trans z23 lob2_18)) nin0)) d31_42 (jineY 63 d31_45 (by decide) (jgo 22 d31_63 (jLa d31_22 rfl (jcF 0 209 210 211 352 353 354 355 356 332 357 (rm46_2 hw o0_24 o3_24) o2_24 pd5 d31_23 rfl ?_)))))))
  rintro _ _ ⟨rfl, rfl⟩
  refine jieqY 66 d31_28 (by decide) (jLa d31_66 rfl (jcP 0 177 4 179 178 5 180 (rm24_1 hw (((f3.keep K17 nin0).keep K18 nin0).keep K24 (ninS (own_lo f3.lt (Nat.le_trans z23 lob2_18)) nin0)) (((f4.keep K17).keep K18).keep K24) (((f5.keep K17 nin0).keep K18 nin0).keep K24 (ninS (own_lo f4.lt (Nat.le_trans z23 lob2_18)) nin0))) (((f30.keep K17).keep K18).keep K24) pd0 d31_67 rfl ?_))
  rintro _ _ ⟨rfl, rfl⟩
  exact jLi d31_70 rfl (jrZ d31_71 (k _ _ ⟨rfl, ((((Keep.refl h0 []).trans K17 all0).trans K18 all0).trans K24 (allS (Or.inr (Nat.le_trans z23 lob2_18)) all0))⟩))
set_option maxRecDepth 65536 in
set_option maxHeartbeats 40000000 in
theorem rm25_1 {a1 a2 a5 : Addr} {p8 : Int32} {a11 : Addr} {k13 : ClassId} {a14 a18 a29 a33 : Addr} (hw : HW a0 Z) (f3 : Fld Z h0 a1 cC8 "exclusive" cC10 (.null)) (f4 : Exa Z h0 a1 cC8) (f6 : Fld Z h0 a1 cC8 "others" cC11 (VR a5)) (f7 : Exa Z h0 a5 cC21) (f9 : Fld Z h0 a5 cC22 "modCount" "I" (VI p8)) (f10 : Fld Z h0 a5 cC21 "size" "I" (VI 1)) (f12 : Fld Z h0 a5 cC21 "elementData" cC1 (VR a11)) (f15 : Arv Z h0 a11 k13 (.object "java/lang/Object") 2 [VR a14, .null] (.null)) (f16 : Exa Z h0 a14 cC18) (f17 : Fld Z h0 a14 cC18 "granted" "Z" (VI 1)) (f19 : Fld Z h0 a14 cC18 "transaction" cC10 (VR a18)) (f20 : a18 ≠ a2) (f27 : Exa Z h0 a11 cC1) (f30 : own_Mir Z cC1 a29) (f34 : Sta Z Z.heap cC34 "EMPTY" cC9 (VR a33)) :
    own_M l Z h0 yM49 c25 3 (some .boolean) 9 4 11 115 #[VR a1, VR a2] (fun v h => v = some (VI 0) ∧ Keep h0 h []) := by
  refine own_ent hw (plainFor_of_name pn2) #[SR a1, SR a2, SU] (fun _ => rfl) fun Q k => ?_
  refine jLa d25_0 rfl (jgF 66 f3 d25_1 (jLa d25_4 rfl (jac 18 d25_5 (decide_eq_false nofun) (jLa d25_18 rfl (jLa d25_19 rfl (jcP 0 82 4 84 83 5 85 (rm11_2 hw f6 f7 f9 f10 f12 f15 f16 f17 f19 f20) f4 pd6 d25_20 rfl ?_))))))
  rintro _ h21 ⟨rfl, K21⟩
  have F22 := f4.keep K21
  refine jnta d25_23 #[SR a1, SR a2, SN] rfl (jnLa d25_24 rfl (jzY 39 d25_25 (jLa d25_39 rfl (jcP 0 237 4 239 238 5 240 (rm31_1 hw (f6.keep K21 nin0) (f7.keep K21) (f10.keep K21 nin0) (f12.keep K21 nin0) (f27.keep K21) f30 (f15.keep K21 nin0) (f16.keep K21) f34 (f17.keep K21 nin0) F22) F22 pd5 d25_40 rfl ?_))))
  rintro _ h36 ⟨rfl, K36⟩
  exact jrZ d25_43 (k _ _ ⟨rfl, (((Keep.refl h0 []).trans K21 all0).trans K36 all0)⟩)
set_option maxRecDepth 65536 in
set_option maxHeartbeats 40000000 in
theorem rm11_3 {a1 a2 a3 : Addr} {p6 : Int32} {a13 : Addr} {k16 : ClassId} {a17 a30 : Addr} (hw : HW a0 Z) (f4 : Fld Z h0 a1 cC8 "others" cC11 (VR a3)) (f5 : Exa Z h0 a3 cC21) (f7 : Fld Z h0 a3 cC22 "modCount" "I" (VI p6)) (f9 : Fld Z h0 a3 cC21 "size" "I" (VI 1)) (f14 : Fld Z h0 a3 cC21 "elementData" cC1 (VR a13)) (f18 : Arv Z h0 a13 k16 (.object "java/lang/Object") 2 [VR a17, .null] (.null)) (f23 : Exa Z h0 a17 cC18) (f25 : Fld Z h0 a17 cC18 "granted" "Z" (VI 1)) (f28 : Fld Z h0 a17 cC18 "transaction" cC10 (VR a2)) (f31 : Fld Z h0 a17 cC18 "mode" cC3 (VR a30)) (f33 : Sta Z Z.heap cC2 "SHARED" cC3 (VR a30)) :
    own_M l Z h0 yM9 c11 5 (some (.object cC18)) 3 1 4 38 #[VR a1, VR a2] (fun v h => v = some (VR a17) ∧ Keep h0 h []) := by
  refine own_ent hw (plainFor_of_name pn2) #[SR a1, SR a2, SU, SU, SU] (fun _ => rfl) fun Q k => ?_
  refine own_z fun Z0 => ?_
  refine jkN d11_0 (jnta d11_1 #[SR a1, SR a2, SN, SU, SU] rfl (jLa d11_2 rfl (jgF 68 f4 d11_3 (jzN d11_6 (jLa d11_9 rfl (jgF 68 f4 d11_10 (jcF 0 186 187 188 189 190 191 192 139 110 193 (rm26_1 hw f7) f5 pd18 d11_13 rfl ?_)))))))
  rintro _ h8 ⟨b2_8, rfl, K8, lob2_8, o0_8, o1_8, o2_8, o3_8, o4_8⟩
  have F10 := f9.keep K8 nin0
  refine jta d11_18 #[SR a1, SR a2, SN, SR b2_8, SU] rfl (jLa d11_19 rfl (jcF 0 209 210 211 212 213 214 215 216 196 217 (rm28_1 hw o4_8 o1_8 F10) o0_8 pd5 d11_20 rfl ?_))
  rintro _ _ ⟨rfl, rfl⟩
  refine jieqN d11_25 (by decide) (jLa d11_28 rfl (jcF 0 221 222 223 224 225 226 227 216 196 228 (rm29_1 hw o0_8 o1_8 (f7.keep K8 nin0) o3_8 o4_8 F10 (f14.keep K8 nin0) (f18.keep K8 nin0) (Nat.le_trans Z0 lob2_8) o2_8 (own_lo f18.lt lob2_8)) o0_8 pd19 d11_29 rfl ?_))
  rintro _ h22 ⟨rfl, K22, o0_22, o1_22, o2_22, o3_22, o4_22⟩
  have v26 := own_lo f23.lt lob2_8
  refine jcY 75 (Ins.self ((f23.keep K8).keep K22)) d11_34 (jtA d11_37 #[SR a1, SR a2, SN, SR b2_8, SR a17] rfl (jLA d11_39 rfl (jgR 175 ((f25.keep K8 nin0).keep K22 (ninS v26 nin0)) d11_41 (jieqN d11_44 (by decide) (jLA d11_47 rfl (jgR 236 ((f28.keep K8 nin0).keep K22 (ninS v26 nin0)) d11_49 (jLa d11_52 rfl (jac 56 d11_53 (decide_eq_true rfl) (jLA d11_56 rfl (jgR 147 ((f31.keep K8 nin0).keep K22 (ninS v26 nin0)) d11_58 (jgS 98 f33 d11_61 (jac 67 d11_64 (decide_eq_true rfl) (jLA d11_67 rfl (jta d11_69 #[SR a1, SR a2, SR a17, SR b2_8, SR a17] rfl (jgo 19 d11_70 ?_)))))))))))))))
  refine jLa d11_19 rfl (jcF 0 209 210 211 212 213 214 215 216 196 217 (rm28_2 hw o3_22 o1_22 (F10.keep K22 (ninS (own_lo f5.lt lob2_8) nin0))) o0_22 pd5 d11_20 rfl ?_)
  rintro _ _ ⟨rfl, rfl⟩
  exact jieqY 73 d11_25 (by decide) (jLa d11_73 rfl (jrA d11_74 (k _ _ ⟨rfl, (((Keep.refl h0 []).trans K8 all0).trans K22 (allS (Or.inr lob2_8) all0))⟩)))
set_option maxRecDepth 65536 in
set_option maxHeartbeats 40000000 in
theorem rm51_1 {a1 a2 : Addr} {p3 p4 : Int32} {k14 : ClassId} {a15 : Addr} (hw : HW a0 Z) (f5 : Fld Z h0 a1 cC22 "modCount" "I" (VI p4)) (f6 : Exa Z h0 a1 cC21) (f7 : Z.heap.size ≤ a1) (f9 : Fld Z h0 a1 cC21 "size" "I" (VI 1)) (f12 : ¬ (p3 < (0 : Int32))) (f16 : Arv Z h0 a2 k14 (.object "java/lang/Object") 2 [VR a15, .null] (.null)) (f17 : a2 ≠ a1) (f19 : Z.heap.size ≤ a2) (f24 : Fld Z h0 a1 cC21 "elementData" cC1 (VR a2)) (f26 : Exa Z h0 a2 cC1) :
    own_M l Z h0 yM50 c51 4 none 0 0 0 0 #[VR a1, VR a2, VI p3] (fun v h => v = none ∧ Keep h0 h [a1, a2] ∧ Fld Z h a1 cC22 "modCount" "I" (VI (p4 + (1 : Int32))) ∧ Exa Z h a1 cC21 ∧ Fld Z h a1 cC21 "size" "I" (VI 0) ∧ Fld Z h a1 cC21 "elementData" cC1 (VR a2) ∧ Arv Z h a2 k14 (.object "java/lang/Object") 2 [.null, .null] (.null) ∧ Exa Z h a2 cC1) := by
  refine own_ent hw (plainFor_of_name pn15) #[SR a1, SR a2, SI p3, SU] (fun _ => rfl) fun Q k => ?_
  refine jLa d51_0 rfl (jdU d51_1 rfl (jgV 167 168 f5 d51_2 (jkI 1 d51_5 rfl (jiadd d51_6 (jpVI 167 128 109 168 f5 f6 f7 d51_7 fun h8 W8 F8 => ?_)))))
  have F10 := f6.wr W8
  have F11 := fS f9 W8 (lA hw 142) (lA hw 128)
  refine jLa d51_10 rfl (jgF 141 F11 d51_11 (jkI 1 d51_14 rfl (jisub d51_15 (jdU d51_16 rfl (jti d51_17 #[SR a1, SR a2, SI p3, SI 0] rfl (jLi d51_18 rfl (jcleY 34 d51_19 f12 (jLa d51_34 rfl (jLa d51_35 rfl (jLi d51_36 rfl (jdX d51_37 rfl rfl (jpFI 141 142 109 F11 F10 f7 d51_38 fun h13 W13 F13 => ?_))))))))))))
  refine jkN d51_41 (jsN ((f16.other W8 f17).other W13 f17) (by decide) f19 0 [.null, .null] d51_42 rfl rfl fun h20 W20 V20 => ?_)
  exact jrV d51_43 (k _ _ ⟨rfl, ((((Keep.refl h0 [a1, a2]).wr W8 (mI 0)).wr W13 (mI 0)).wr W20 (mI 1)), (fW (fS F8 W13 (lA hw 128) (lA hw 142)) W20 f17.symm), ((F10.wr W13).wr W20), (fW F13 W20 f17.symm), (fW (fS (fS f24 W8 (lA hw 131) (lA hw 128)) W13 (lA hw 131) (lA hw 142)) W20 f17.symm), V20, (((f26.wr W8).wr W13).wr W20)⟩)
set_option maxRecDepth 65536 in
set_option maxHeartbeats 40000000 in
theorem rm49_1 {a1 a2 a3 : Addr} {k6 : ClassId} {p10 : Int32} (hw : HW a0 Z) (f4 : Fld Z h0 a1 cC21 "elementData" cC1 (VR a3)) (f5 : Fld Z h0 a1 cC21 "size" "I" (VI 1)) (f7 : Arv Z h0 a3 k6 (.object "java/lang/Object") 2 [VR a2, .null] (.null)) (f8 : Exa Z h0 a2 cC18) (f9 : Exa Z h0 a1 cC21) (f11 : Fld Z h0 a1 cC22 "modCount" "I" (VI p10)) (f12 : Z.heap.size ≤ a1) (f13 : a3 ≠ a1) (f14 : Z.heap.size ≤ a3) (f15 : Exa Z h0 a3 cC1) :
    own_M l Z h0 yM51 c49 5 (some .boolean) 1 0 0 15 #[VR a1, VR a2] (fun v h => v = some (VI 1) ∧ Keep h0 h [a1, a3] ∧ Exa Z h a1 cC21 ∧ Fld Z h a1 cC22 "modCount" "I" (VI (p10 + (1 : Int32))) ∧ Fld Z h a1 cC21 "size" "I" (VI 0) ∧ Fld Z h a1 cC21 "elementData" cC1 (VR a3) ∧ Exa Z h a3 cC1 ∧ Arv Z h a3 k6 (.object "java/lang/Object") 2 [.null, .null] (.null)) := by
  refine own_ent hw (plainFor_of_name pn15) #[SR a1, SR a2, SU, SU, SU] (fun _ => rfl) fun Q k => ?_
  refine jLa d49_0 rfl (jgF 130 f4 d49_1 (jta d49_4 #[SR a1, SR a2, SR a3, SU, SU] rfl (jLa d49_5 rfl (jgF 141 f5 d49_6 (jti d49_9 #[SR a1, SR a2, SR a3, SI 1, SU] rfl (jkI 0 d49_10 rfl (jtI d49_11 #[SR a1, SR a2, SR a3, SI 1, SI 0] rfl (jLa d49_13 rfl (jyY 39 d49_14 (jLI d49_39 rfl (jLi d49_41 rfl (jcgeN d49_42 (by decide) (jLa d49_45 rfl (jLa d49_46 rfl (jLI d49_47 rfl ?_)))))))))))))))
  refine jaa f7 (by decide) (VR a2) rfl d49_49 (jeT 0 379 380 382 381 383 (nfT hw 253) f8 d49_50 (jieqN d49_53 (by decide) (jgo 67 d49_56 (jLa d49_67 rfl (jLa d49_68 rfl (jLI d49_69 rfl (jcP 0 384 109 386 385 110 388 (rm51_1 hw f11 f9 f12 f5 (by decide) f7 f13 f14 f4 f15) f9 pd30 d49_71 rfl ?_)))))))
  rintro _ h16 ⟨rfl, K16, o0_16, o1_16, o2_16, o3_16, o4_16, o5_16⟩
  exact jkI 1 d49_74 rfl (jrZ d49_75 (k _ _ ⟨rfl, ((Keep.refl h0 [a1, a3]).trans K16 (allS (mI 0) (allS (mI 1) all0))), o1_16, o0_16, o2_16, o3_16, o5_16, o4_16⟩))
set_option maxRecDepth 65536 in
set_option maxHeartbeats 40000000 in
theorem rm52_1 {a1 : Addr} (hw : HW a0 Z) (f2 : Sta Z Z.heap cC34 "EMPTY_LIST" cC36 (VR a1)) :
    own_M l Z h0 yM52 c52 0 (some (.object cC23)) 0 0 0 0 #[] (fun v h => v = some (VR a1) ∧ h0 = h) := by
  refine own_ent hw (plainFor_of_name pn32) #[] (fun _ => rfl) fun Q k => ?_
  exact jgS 392 f2 d52_0 (jrA d52_3 (k _ _ ⟨rfl, rfl⟩))
set_option maxRecDepth 65536 in
set_option maxHeartbeats 40000000 in
theorem rm33_2 {a1 a5 : Addr} (hw : HW a0 Z) (f2 : Exa Z h0 a1 cC21) (f3 : Fld Z h0 a1 cC21 "size" "I" (VI 0)) (f6 : Sta Z Z.heap cC34 "EMPTY_LIST" cC36 (VR a5)) :
    own_M l Z h0 yM40 c33 2 (some (.object cC23)) 1 0 0 12 #[VR a1] (fun v h => v = some (VR a5) ∧ h0 = h) := by
  refine own_ent hw (plainFor_of_name pn33) #[SR a1, SU] (fun _ => rfl) fun Q k => ?_
  refine jLa d33_0 rfl (jiN 249 f2 (own_NSno (WW hw 250) (own_ordI (WW hw 295)) (NS.step (WW hw 250) (NS.step (WW hw 251) (NS.step (WW hw 252) (own_NSroot (WW hw 253) (own_ordI (WW hw 295)) (by decide)) (by decide)) (by decide)) (by decide)) (by decide)) d33_1 (jineN d33_4 (by decide) (jLa d33_7 rfl (jiN 254 f2 (own_NSno (WW hw 250) (own_ordS (y := yM30) (WW hw 396)) (NS.step (WW hw 250) (NS.step (WW hw 251) (NS.step (WW hw 252) (own_NSroot (WW hw 253) (own_ordS (y := yM30) (WW hw 396)) (by decide)) (by decide)) (by decide)) (by decide)) (by decide)) d33_8 (jieqY 31 d33_11 (by decide) (jLa d33_31 rfl (jcF 0 255 256 257 258 136 137 138 259 110 140 (rm18_1 hw f3) f2 pd5 d33_32 rfl ?_)))))))
  rintro _ _ ⟨rfl, rfl⟩
  refine jieqN d33_37 (by decide) (jcS 0 389 390 243 391 (rm52_1 hw f6) pd12 d33_40 rfl ?_)
  rintro _ _ ⟨rfl, rfl⟩
  exact jrA d33_43 (k _ _ ⟨rfl, rfl⟩)
set_option maxRecDepth 65536 in
set_option maxHeartbeats 40000000 in
theorem rm32_2 {a1 a4 : Addr} (hw : HW a0 Z) (f2 : Exa Z h0 a1 cC21) (f3 : Fld Z h0 a1 cC21 "size" "I" (VI 0)) (f5 : Sta Z Z.heap cC34 "EMPTY_LIST" cC36 (VR a4)) :
    own_M l Z h0 yM41 c32 1 (some (.object cC23)) 2 0 0 25 #[VR a1] (fun v h => v = some (VR a4) ∧ h0 = h) := by
  refine own_ent hw (plainFor_of_name pn32) #[SR a1] (fun _ => rfl) fun Q k => ?_
  refine jLa d32_0 rfl (jcS 0 245 246 247 248 (rm33_2 hw f2 f3 f5) pd26 d32_1 rfl ?_)
  rintro _ _ ⟨rfl, rfl⟩
  exact jrA d32_4 (k _ _ ⟨rfl, rfl⟩)
set_option maxRecDepth 65536 in
set_option maxHeartbeats 40000000 in
theorem rm53_1 {a1 a2 : Addr} {k4 : ClassId} (hw : HW a0 Z) (f3 : Fld Z h0 a1 cC0 "elements" cC1 (VR a2)) (f5 : Arv Z h0 a2 k4 (.object "java/lang/Object") 0 [] (.null)) :
    own_M l Z h0 yM30 c53 1 (some .int) 0 0 0 0 #[VR a1] (fun v h => v = some (VI 0) ∧ h0 = h) := by
  refine own_ent hw (plainFor_of_name pn53) #[SR a1] (fun _ => rfl) fun Q k => ?_
  exact jLa d53_0 rfl (jgF 400 f3 d53_1 (jal f5 d53_4 (jrI d53_5 (k _ _ ⟨rfl, rfl⟩))))
set_option maxRecDepth 65536 in
set_option maxHeartbeats 40000000 in
theorem rm43_2 {a1 a9 : Addr} {k12 : ClassId} (hw : HW a0 Z) (f7 : Exa Z h0 a1 cC0) (f10 : Fld Z h0 a1 cC0 "elements" cC1 (VR a9)) (f13 : Arv Z h0 a9 k12 (.object "java/lang/Object") 0 [] (.null)) :
    own_M l Z h0 yM44 c43 1 (some (.object cC27)) 2 1 4 27 #[VR a1] (fun v h => ∃ (b2 : Addr), v = some (VR b2) ∧ Keep h0 h [] ∧ h0.size ≤ b2 ∧ Exa Z h b2 cC35 ∧ Fld Z h b2 cC35 "list" cC11 (VR a1) ∧ Fld Z h b2 cC35 "size" "I" (VI 0) ∧ Fld Z h b2 cC35 "cursor" "I" (VI 0) ∧ Fld Z h b2 cC35 "isListIterator" "Z" (VI 0)) := by
  refine own_ent hw (plainFor_of_name pn40) #[SR a1] (fun _ => rfl) fun Q k => ?_
  refine jnew 330 331 332 d43_0 fun b2 h2 g2 u2 E2 A2 D2 => ?_
  refine jdU d43_3 rfl (jLa d43_4 rfl (jLa d43_5 rfl (jcU 3 333 334 335 396 397 398 399 (rm53_1 hw (f10.ext E2) (f13.ext E2)) (f7.ext E2) pd27 d43_6 rfl ?_)))
  rintro _ _ ⟨rfl, rfl⟩
  refine jcI 1 339 340 332 342 (rm45_1 hw A2 (dN D2 (lB hw 345)) u2 (dI D2 (lB hw 347)) (dI D2 (lA hw 349)) (dZ D2 (lB hw 351))) pd28 d43_9 rfl ?_
  rintro _ h16 ⟨rfl, K16, o0_16, o1_16, o2_16, o3_16, o4_16⟩
  exact jrA d43_12 (k _ _ ⟨b2, rfl, (((Keep.refl h0 []).ext E2).trans K16 (allS (Or.inr g2) all0)), g2, o0_16, o1_16, o2_16, o3_16, o4_16⟩)
set_option maxRecDepth 65536 in
set_option maxHeartbeats 40000000 in
theorem rm46_3 {a1 : Addr} (hw : HW a0 Z) (f2 : Fld Z h0 a1 cC35 "cursor" "I" (VI 0)) (f3 : Fld Z h0 a1 cC35 "size" "I" (VI 0)) :
    own_M l Z h0 yM45 c46 1 (some .boolean) 0 0 0 0 #[VR a1] (fun v h => v = some (VI 0) ∧ h0 = h) := by
  refine own_ent hw (plainFor_of_name pn45) #[SR a1] (fun _ => rfl) fun Q k => ?_
  exact jLa d46_0 rfl (jgF 348 f2 d46_1 (jLa d46_4 rfl (jgF 346 f3 d46_5 (jceqY 15 d46_8 (by decide) (jkI 0 d46_15 rfl (jrZ d46_16 (k _ _ ⟨rfl, rfl⟩)))))))
set_option maxRecDepth 65536 in
set_option maxHeartbeats 40000000 in
theorem rm24_2 {a1 a2 a13 : Addr} (hw : HW a0 Z) (f3 : Fld Z h0 a1 cC8 "others" cC11 (VR a2)) (f4 : Exa Z h0 a2 cC21) (f5 : Fld Z h0 a2 cC21 "size" "I" (VI 0)) (f7 : Exa Z h0 a1 cC8) (f8 : Z.heap.size ≤ a1) (f11 : Fld Z h0 a1 cC8 "exclusive" cC10 (.null)) (f14 : Fld Z h0 a1 cC8 "key" cC9 (VR a13)) (f16 : Fld Z h0 a1 cC8 "version" cC1 (.null)) :
    own_M l Z h0 yM23 c24 1 none 1 0 0 12 #[VR a1] (fun v h => v = none ∧ Keep h0 h [a1] ∧ Fld Z h a1 cC8 "others" cC11 (.null) ∧ Exa Z h a1 cC8 ∧ Fld Z h a1 cC8 "exclusive" cC10 (.null) ∧ Fld Z h a1 cC8 "key" cC9 (VR a13) ∧ Fld Z h a1 cC8 "version" cC1 (.null)) := by
  refine own_ent hw (plainFor_of_name pn2) #[SR a1] (fun _ => rfl) fun Q k => ?_
  refine jLa d24_0 rfl (jgF 68 f3 d24_1 (jzN d24_4 (jLa d24_7 rfl (jgF 68 f3 d24_8 (jcF 0 132 133 134 135 136 137 138 139 110 140 (rm18_1 hw f5) f4 pd5 d24_11 rfl ?_)))))
  rintro _ _ ⟨rfl, rfl⟩
  refine jieqN d24_16 (by decide) (jLa d24_19 rfl (jkN d24_20 (jpFN 68 69 4 f3 f7 f8 d24_21 fun h9 W9 F9 => ?_)))
  exact jrV d24_24 (k _ _ ⟨rfl, ((Keep.refl h0 [a1]).wr W9 (mI 0)), F9, (f7.wr W9), (fS f11 W9 (lA hw 67) (lA hw 69)), (fS f14 W9 (lB hw 21) (lA hw 69)), (fS f16 W9 (lA hw 419) (lA hw 69))⟩)
set_option maxRecDepth 65536 in
set_option maxHeartbeats 40000000 in
theorem rm31_2 {a1 a2 a6 a10 : Addr} {k12 : ClassId} {a24 : Addr} (hw : HW a0 Z) (f3 : Fld Z h0 a1 cC8 "others" cC11 (VR a2)) (f4 : Exa Z h0 a2 cC21) (f5 : Fld Z h0 a2 cC21 "size" "I" (VI 0)) (f7 : Sta Z Z.heap cC34 "EMPTY_LIST" cC36 (VR a6)) (f9 : Exa Z h0 a6 cC0) (f11 : Fld Z h0 a6 cC0 "elements" cC1 (VR a10)) (f13 : Arv Z h0 a10 k12 (.object "java/lang/Object") 0 [] (.null)) (f16 : Exa Z h0 a1 cC8) (f21 : Z.heap.size ≤ a1) (f22 : Fld Z h0 a1 cC8 "exclusive" cC10 (.null)) (f25 : Fld Z h0 a1 cC8 "key" cC9 (VR a24)) (f27 : Fld Z h0 a1 cC8 "version" cC1 (.null)) :
    own_M l Z h0 yM48 c31 4 (some .boolean) 3 1 4 39 #[VR a1] (fun v h => v = some (VI 0) ∧ Keep h0 h [a1] ∧ Exa Z h a1 cC8 ∧ Fld Z h a1 cC8 "others" cC11 (.null) ∧ Fld Z h a1 cC8 "exclusive" cC10 (.null) ∧ Fld Z h a1 cC8 "key" cC9 (VR a24) ∧ Fld Z h a1 cC8 "version" cC1 (.null)) := by
  refine own_ent hw (plainFor_of_name pn2) #[SR a1, SU, SU, SU] (fun _ => rfl) fun Q k => ?_
  refine jkI 0 d31_0 rfl (jti d31_1 #[SR a1, SI 0, SU, SU] rfl (jLa d31_2 rfl (jgF 68 f3 d31_3 (jzN d31_6 (jLa d31_9 rfl (jgF 68 f3 d31_10 (jcS 0 241 242 243 244 (rm32_2 hw f4 f5 f7) pd26 d31_13 rfl ?_)))))))
  rintro _ _ ⟨rfl, rfl⟩
  refine jcF 0 186 187 188 393 325 326 394 395 305 329 (rm43_2 hw f9 f11 f13) f9 pd18 d31_16 rfl ?_
  rintro _ h14 ⟨b2_14, rfl, K14, lob2_14, o0_14, o1_14, o2_14, o3_14, o4_14⟩
  refine jta d31_21 #[SR a1, SI 0, SR b2_14, SU] rfl (jLa d31_22 rfl (jcF 0 209 210 211 352 353 354 355 356 332 357 (rm46_3 hw o3_14 o2_14) o0_14 pd5 d31_23 rfl ?_))
  rintro _ _ ⟨rfl, rfl⟩
  have F17 := f16.keep K14
  refine jieqY 66 d31_28 (by decide) (jLa d31_66 rfl (jcP 0 177 4 179 178 5 180 (rm24_2 hw (f3.keep K14 nin0) (f4.keep K14) (f5.keep K14 nin0) F17 f21 (f22.keep K14 nin0) (f25.keep K14 nin0) (f27.keep K14 nin0)) F17 pd0 d31_67 rfl ?_))
  rintro _ h29 ⟨rfl, K29, o0_29, o1_29, o2_29, o3_29, o4_29⟩
  exact jLi d31_70 rfl (jrZ d31_71 (k _ _ ⟨rfl, (((Keep.refl h0 [a1]).trans K14 all0).trans K29 (allS (mI 0) all0)), o1_29, o0_29, o2_29, o3_29, o4_29⟩))
set_option maxRecDepth 65536 in
set_option maxHeartbeats 40000000 in
theorem rm25_2 {a1 a2 a5 : Addr} {p8 : Int32} {a11 : Addr} {k13 : ClassId} {a14 a19 a40 a44 : Addr} {k49 : ClassId} {a56 : Addr} (hw : HW a0 Z) (f3 : Fld Z h0 a1 cC8 "exclusive" cC10 (.null)) (f4 : Exa Z h0 a1 cC8) (f6 : Fld Z h0 a1 cC8 "others" cC11 (VR a5)) (f7 : Exa Z h0 a5 cC21) (f9 : Fld Z h0 a5 cC22 "modCount" "I" (VI p8)) (f10 : Fld Z h0 a5 cC21 "size" "I" (VI 1)) (f12 : Fld Z h0 a5 cC21 "elementData" cC1 (VR a11)) (f15 : Arv Z h0 a11 k13 (.object "java/lang/Object") 2 [VR a14, .null] (.null)) (f16 : Exa Z h0 a14 cC18) (f17 : Fld Z h0 a14 cC18 "granted" "Z" (VI 1)) (f18 : Fld Z h0 a14 cC18 "transaction" cC10 (VR a2)) (f20 : Fld Z h0 a14 cC18 "mode" cC3 (VR a19)) (f21 : Sta Z Z.heap cC2 "SHARED" cC3 (VR a19)) (f30 : Z.heap.size ≤ a5) (f31 : a11 ≠ a5) (f32 : Z.heap.size ≤ a11) (f33 : Exa Z h0 a11 cC1) (f37 : a1 ≠ a11) (f38 : a1 ≠ a5) (f41 : Sta Z Z.heap cC34 "EMPTY_LIST" cC36 (VR a40)) (f42 : Exa Z h0 a40 cC0) (f45 : Fld Z h0 a40 cC0 "elements" cC1 (VR a44)) (f46 : a40 ≠ a11) (f47 : a40 ≠ a5) (f50 : Arv Z h0 a44 k49 (.object "java/lang/Object") 0 [] (.null)) (f51 : a44 ≠ a11) (f52 : a44 ≠ a5) (f54 : Z.heap.size ≤ a1) (f57 : Fld Z h0 a1 cC8 "key" cC9 (VR a56)) (f59 : Fld Z h0 a1 cC8 "version" cC1 (.null)) :
    own_M l Z h0 yM49 c25 3 (some .boolean) 4 2 8 54 #[VR a1, VR a2] (fun v h => v = some (VI 0) ∧ Keep h0 h [a5, a11, a1] ∧ Exa Z h a5 cC21 ∧ Fld Z h a5 cC22 "modCount" "I" (VI (p8 + (1 : Int32))) ∧ Fld Z h a5 cC21 "size" "I" (VI 0) ∧ Fld Z h a5 cC21 "elementData" cC1 (VR a11) ∧ Exa Z h a11 cC1 ∧ Arv Z h a11 k13 (.object "java/lang/Object") 2 [.null, .null] (.null) ∧ Exa Z h a1 cC8 ∧ Fld Z h a1 cC8 "others" cC11 (.null) ∧ Fld Z h a1 cC8 "exclusive" cC10 (.null) ∧ Fld Z h a1 cC8 "key" cC9 (VR a56) ∧ Fld Z h a1 cC8 "version" cC1 (.null)) := by
  refine own_ent hw (plainFor_of_name pn2) #[SR a1, SR a2, SU] (fun _ => rfl) fun Q k => ?_
  refine jLa d25_0 rfl (jgF 66 f3 d25_1 (jLa d25_4 rfl (jac 18 d25_5 (decide_eq_false nofun) (jLa d25_18 rfl (jLa d25_19 rfl (jcP 0 82 4 84 83 5 85 (rm11_3 hw f6 f7 f9 f10 f12 f15 f16 f17 f18 f20 f21) f4 pd6 d25_20 rfl ?_))))))
  rintro _ h22 ⟨rfl, K22⟩
  have F23 := f6.keep K22 nin0
  have F24 := f7.keep K22
  refine jta d25_23 #[SR a1, SR a2, SR a14] rfl (jLa d25_24 rfl (jzN d25_25 (jLa d25_28 rfl (jgF 68 F23 d25_29 (jLa d25_32 rfl (jcF 0 371 372 373 374 375 376 377 139 110 378 (rm49_1 hw (f12.keep K22 nin0) (f10.keep K22 nin0) (f15.keep K22 nin0) (f16.keep K22) F24 (f9.keep K22 nin0) f30 f31 f32 (f33.keep K22)) F24 pd14 d25_33 rfl ?_))))))
  rintro _ h35 ⟨rfl, K35, o0_35, o1_35, o2_35, o3_35, o4_35, o5_35⟩
  have F36 := (f4.keep K22).keep K35
  refine jpO d25_38 rfl (jLa d25_39 rfl (jcP 0 237 4 239 238 5 240 (rm31_2 hw (F23.keep K35 (ninS f38 (ninS f37 nin0))) o0_35 o2_35 f41 ((f42.keep K22).keep K35) ((f45.keep K22 nin0).keep K35 (ninS f47 (ninS f46 nin0))) ((f50.keep K22 nin0).keep K35 (ninS f52 (ninS f51 nin0))) F36 f54 ((f3.keep K22 nin0).keep K35 (ninS f38 (ninS f37 nin0))) ((f57.keep K22 nin0).keep K35 (ninS f38 (ninS f37 nin0))) ((f59.keep K22 nin0).keep K35 (ninS f38 (ninS f37 nin0)))) F36 pd5 d25_40 rfl ?_))
  rintro _ h61 ⟨rfl, K61, o0_61, o1_61, o2_61, o3_61, o4_61⟩
  exact jrZ d25_43 (k _ _ ⟨rfl, ((((Keep.refl h0 [a5, a11, a1]).trans K22 all0).trans K35 (allS (mI 0) (allS (mI 1) all0))).trans K61 (allS (mI 2) all0)), (o0_35.keep K61), (o1_35.keep K61 (ninS f38.symm nin0)), (o2_35.keep K61 (ninS f38.symm nin0)), (o3_35.keep K61 (ninS f38.symm nin0)), (o4_35.keep K61), (o5_35.keep K61 (ninS f37.symm nin0)), o0_61, o1_61, o2_61, o3_61, o4_61⟩)
set_option maxRecDepth 65536 in
set_option maxHeartbeats 40000000 in
theorem rm24_3 {a1 : Addr} (hw : HW a0 Z) (f2 : Fld Z h0 a1 cC8 "others" cC11 (.null)) :
    own_M l Z h0 yM23 c24 1 none 0 0 0 0 #[VR a1] (fun v h => v = none ∧ h0 = h) := by
  refine own_ent hw (plainFor_of_name pn2) #[SR a1] (fun _ => rfl) fun Q k => ?_
  exact jLa d24_0 rfl (jgF 68 f2 d24_1 (jzY 24 d24_4 (jrV d24_24 (k _ _ ⟨rfl, rfl⟩))))
set_option maxRecDepth 65536 in
set_option maxHeartbeats 40000000 in
theorem rm31_3 {a1 : Addr} (hw : HW a0 Z) (f2 : Fld Z h0 a1 cC8 "others" cC11 (.null)) (f3 : Exa Z h0 a1 cC8) :
    own_M l Z h0 yM48 c31 4 (some .boolean) 1 0 0 12 #[VR a1] (fun v h => v = some (VI 0) ∧ h0 = h) := by
  refine own_ent hw (plainFor_of_name pn2) #[SR a1, SU, SU, SU] (fun _ => rfl) fun Q k => ?_
  refine jkI 0 d31_0 rfl (jti d31_1 #[SR a1, SI 0, SU, SU] rfl (jLa d31_2 rfl (jgF 68 f2 d31_3 (jzY 66 d31_6 (jLa d31_66 rfl (jcP 0 177 4 179 178 5 180 (rm24_3 hw f2) f3 pd0 d31_67 rfl ?_))))))
  rintro _ _ ⟨rfl, rfl⟩
  exact jLi d31_70 rfl (jrZ d31_71 (k _ _ ⟨rfl, rfl⟩))
set_option maxRecDepth 65536 in
set_option maxHeartbeats 40000000 in
theorem rm25_3 {a1 a2 : Addr} (hw : HW a0 Z) (f3 : Fld Z h0 a1 cC8 "exclusive" cC10 (.null)) (f4 : Exa Z h0 a1 cC8) (f5 : Fld Z h0 a1 cC8 "others" cC11 (.null)) :
    own_M l Z h0 yM49 c25 3 (some .boolean) 2 0 0 27 #[VR a1, VR a2] (fun v h => v = some (VI 0) ∧ h0 = h) := by
  refine own_ent hw (plainFor_of_name pn2) #[SR a1, SR a2, SU] (fun _ => rfl) fun Q k => ?_
  refine jLa d25_0 rfl (jgF 66 f3 d25_1 (jLa d25_4 rfl (jac 18 d25_5 (decide_eq_false nofun) (jLa d25_18 rfl (jLa d25_19 rfl (jcP 0 82 4 84 83 5 85 (rm11_1 hw f5) f4 pd6 d25_20 rfl ?_))))))
  rintro _ _ ⟨rfl, rfl⟩
  refine jnta d25_23 #[SR a1, SR a2, SN] rfl (jnLa d25_24 rfl (jzY 39 d25_25 (jLa d25_39 rfl (jcP 0 237 4 239 238 5 240 (rm31_3 hw f5 f4) f4 pd5 d25_40 rfl ?_))))
  rintro _ _ ⟨rfl, rfl⟩
  exact jrZ d25_43 (k _ _ ⟨rfl, rfl⟩)
set_option maxRecDepth 65536 in
set_option maxHeartbeats 40000000 in
theorem tl17 {D0_ D1_ D2_ D3_ D4_ D5_ D6_ D7_ D8_ D9_ D10_ D11_ D14_ D15_ D16_ D17_ : Slot} (hw : HW a0 Z) :
    own_T l Z a0 A h0 28 124 326 #[D0_, D1_, D2_, D3_, D4_, D5_, D6_, D7_, D8_, D9_, D10_, D11_, SI 1, SI 0, D14_, D15_, D16_, D17_, SI 0, SI 0, SI 1] := by
  exact jLI at_326 rfl (jieqN at_328 (by decide) (jLI at_331 rfl (jineN at_333 (by decide) (jLI at_336 rfl (jLI at_338 rfl (jcneN at_340 (by decide) (jLI at_343 rfl (jieqN at_345 (by decide) (jkI 1 at_348 rfl (jgo 353 at_349 (jrZ at_353 rfl)))))))))))
set_option maxRecDepth 65536 in
set_option maxHeartbeats 40000000 in
theorem tl16 {D0_ D1_ D2_ D3_ D4_ D5_ D6_ D7_ D8_ : Slot} {A10_ : Addr} {D10_ D11_ D14_ D15_ D16_ D17_ : Slot} (hw : HW a0 Z) (fm1_ : Exa Z h0 A10_ cC8) (fm2_ : Fld Z h0 A10_ cC8 "exclusive" cC10 (.null)) (fm3_ : Fld Z h0 A10_ cC8 "others" cC11 (.null)) :
    own_T l Z a0 A h0 28 124 319 #[D0_, D1_, D2_, D3_, D4_, D5_, D6_, D7_, D8_, SR A10_, D10_, D11_, SI 1, SI 0, D14_, D15_, D16_, D17_, SI 0, SI 0, SU] := by
  refine jLA at_319 rfl (jcV 0 61 62 64 63 5 65 (nfS hw 64) (rm8_1 hw fm2_ fm3_) fm1_ pd5 at_321 rfl ?_)
  rintro _ _ ⟨rfl, rfl⟩
  exact jtI at_324 #[D0_, D1_, D2_, D3_, D4_, D5_, D6_, D7_, D8_, SR A10_, D10_, D11_, SI 1, SI 0, D14_, D15_, D16_, D17_, SI 0, SI 0, SI 1] rfl (own_mono (tl17 hw))
set_option maxRecDepth 65536 in
set_option maxHeartbeats 40000000 in
theorem tl15 {D0_ D1_ D2_ D3_ D4_ D5_ D6_ D7_ D8_ : Slot} {A10_ A11_ A12_ : Addr} {D14_ D15_ D16_ D17_ : Slot} {A17_ : Addr} {P18_ : Int32} {A19_ : Addr} {KK20_ : ClassId} {A21_ A22_ A23_ A24_ : Addr} {KK25_ : ClassId} {A26_ : Addr} (hw : HW a0 Z) (fm1_ : Exa Z h0 A10_ cC8) (fm2_ : Fld Z h0 A10_ cC8 "exclusive" cC10 (.null)) (fm3_ : Fld Z h0 A10_ cC8 "others" cC11 (VR A17_)) (fm4_ : Exa Z h0 A17_ cC21) (fm5_ : Fld Z h0 A17_ cC22 "modCount" "I" (VI P18_)) (fm6_ : Fld Z h0 A17_ cC21 "size" "I" (VI 1)) (fm7_ : Fld Z h0 A17_ cC21 "elementData" cC1 (VR A19_)) (fm8_ : Arv Z h0 A19_ KK20_ (.object "java/lang/Object") 2 [VR A21_, .null] (.null)) (fm9_ : Exa Z h0 A21_ cC18) (fm10_ : Fld Z h0 A21_ cC18 "granted" "Z" (VI 1)) (fm11_ : Fld Z h0 A21_ cC18 "transaction" cC10 (VR A11_)) (fm12_ : Fld Z h0 A21_ cC18 "mode" cC3 (VR A22_)) (fm13_ : Sta Z Z.heap cC2 "SHARED" cC3 (VR A22_)) (fm14_ : Z.heap.size ≤ A17_) (fm15_ : A19_ ≠ A17_) (fm16_ : Z.heap.size ≤ A19_) (fm17_ : Exa Z h0 A19_ cC1) (fm18_ : A10_ ≠ A19_) (fm19_ : A10_ ≠ A17_) (fm20_ : Sta Z Z.heap cC34 "EMPTY_LIST" cC36 (VR A23_)) (fm21_ : Exa Z h0 A23_ cC0) (fm22_ : Fld Z h0 A23_ cC0 "elements" cC1 (VR A24_)) (fm23_ : A23_ ≠ A19_) (fm24_ : A23_ ≠ A17_) (fm25_ : Arv Z h0 A24_ KK25_ (.object "java/lang/Object") 0 [] (.null)) (fm26_ : A24_ ≠ A19_) (fm27_ : A24_ ≠ A17_) (fm28_ : Z.heap.size ≤ A10_) (fm29_ : Fld Z h0 A10_ cC8 "key" cC9 (VR A26_)) (fm30_ : Fld Z h0 A10_ cC8 "version" cC1 (.null)) :
    own_T l Z a0 A h0 21 102 303 #[D0_, D1_, D2_, D3_, D4_, D5_, D6_, D7_, D8_, SR A10_, SR A11_, SR A12_, SI 1, SI 0, D14_, D15_, D16_, D17_, SI 0, SI 0, SU] := by
  refine jLA at_303 rfl (jLA at_305 rfl (jcV 0 181 182 184 183 5 185 (nfS hw 184) (rm25_2 hw fm2_ fm1_ fm3_ fm4_ fm5_ fm6_ fm7_ fm8_ fm9_ fm10_ fm11_ fm12_ fm13_ fm14_ fm15_ fm16_ fm17_ fm18_ fm19_ fm20_ fm21_ fm22_ fm23_ fm24_ fm25_ fm26_ fm27_ fm28_ fm29_ fm30_) fm1_ pd7 at_307 rfl ?_))
  rintro _ h1 ⟨rfl, K1, o0_1, o1_1, o2_1, o3_1, o4_1, o5_1, o6_1, o7_1, o8_1, o9_1, o10_1⟩
  refine jpO at_310 rfl (jLA at_311 rfl (jLA at_313 rfl (jcV 0 181 182 184 183 5 185 (nfS hw 184) (rm25_3 hw o8_1 o6_1 o7_1) o6_1 pd7 at_315 rfl ?_)))
  rintro _ _ ⟨rfl, rfl⟩
  exact jpO at_318 rfl (own_mono (tl16 hw o6_1 o8_1 o7_1))
set_option maxRecDepth 65536 in
set_option maxHeartbeats 40000000 in
theorem tl14 {D0_ D1_ D2_ D3_ D4_ D5_ D6_ : Slot} {G7_ : Int32} {D8_ : Slot} {A10_ A11_ A12_ : Addr} {D14_ D16_ : Slot} {A15_ : Addr} {P16_ : Int32} {A17_ : Addr} {KK18_ : ClassId} {A19_ A20_ A21_ A22_ : Addr} {KK23_ : ClassId} {A24_ : Addr} (hw : HW a0 Z) (fm1_ : Exa Z h0 A10_ cC8) (fm2_ : Fld Z h0 A10_ cC8 "exclusive" cC10 (.null)) (fm3_ : Fld Z h0 A10_ cC8 "others" cC11 (VR A15_)) (fm4_ : G7_ = (0 : Int32)) (fm5_ : Exa Z h0 A15_ cC21) (fm6_ : Fld Z h0 A15_ cC22 "modCount" "I" (VI P16_)) (fm7_ : Fld Z h0 A15_ cC21 "size" "I" (VI 1)) (fm8_ : Fld Z h0 A15_ cC21 "elementData" cC1 (VR A17_)) (fm9_ : Arv Z h0 A17_ KK18_ (.object "java/lang/Object") 2 [VR A19_, .null] (.null)) (fm10_ : Exa Z h0 A19_ cC18) (fm11_ : Fld Z h0 A19_ cC18 "granted" "Z" (VI 1)) (fm12_ : Fld Z h0 A19_ cC18 "transaction" cC10 (VR A11_)) (fm13_ : Fld Z h0 A19_ cC18 "mode" cC3 (VR A20_)) (fm14_ : Sta Z Z.heap cC2 "SHARED" cC3 (VR A20_)) (fm15_ : Z.heap.size ≤ A15_) (fm16_ : A17_ ≠ A15_) (fm17_ : Z.heap.size ≤ A17_) (fm18_ : Exa Z h0 A17_ cC1) (fm19_ : A10_ ≠ A17_) (fm20_ : A10_ ≠ A15_) (fm21_ : Sta Z Z.heap cC34 "EMPTY_LIST" cC36 (VR A21_)) (fm22_ : Exa Z h0 A21_ cC0) (fm23_ : Fld Z h0 A21_ cC0 "elements" cC1 (VR A22_)) (fm24_ : A21_ ≠ A17_) (fm25_ : A21_ ≠ A15_) (fm26_ : Arv Z h0 A22_ KK23_ (.object "java/lang/Object") 0 [] (.null)) (fm27_ : A22_ ≠ A17_) (fm28_ : A22_ ≠ A15_) (fm29_ : Z.heap.size ≤ A10_) (fm30_ : Fld Z h0 A10_ cC8 "key" cC9 (VR A24_)) (fm31_ : Fld Z h0 A10_ cC8 "version" cC1 (.null)) :
    own_T l Z a0 A h0 21 102 274 #[D0_, D1_, D2_, D3_, D4_, D5_, D6_, SI G7_, D8_, SR A10_, SR A11_, SR A12_, SI 1, SI 0, D14_, SI 0, D16_, SI 0, SU, SU, SU] := by
  refine jLA at_274 rfl (jcV 0 61 62 64 63 5 65 (nfS hw 64) (rm8_2 hw fm2_ fm3_) fm1_ pd5 at_276 rfl ?_)
  rintro _ _ ⟨rfl, rfl⟩
  exact jtI at_279 #[D0_, D1_, D2_, D3_, D4_, D5_, D6_, SI G7_, D8_, SR A10_, SR A11_, SR A12_, SI 1, SI 0, D14_, SI 0, D16_, SI 0, SI 0, SU, SU] rfl (jLI at_281 rfl (jineN at_283 (by decide) (jLI at_286 rfl (jieqY 300 at_288 fm4_ (jkI 0 at_300 rfl (jtI at_301 #[D0_, D1_, D2_, D3_, D4_, D5_, D6_, SI G7_, D8_, SR A10_, SR A11_, SR A12_, SI 1, SI 0, D14_, SI 0, D16_, SI 0, SI 0, SI 0, SU] rfl (own_mono (tl15 hw fm1_ fm2_ fm3_ fm5_ fm6_ fm7_ fm8_ fm9_ fm10_ fm11_ fm12_ fm13_ fm14_ fm15_ fm16_ fm17_ fm18_ fm19_ fm20_ fm21_ fm22_ fm23_ fm24_ fm25_ fm26_ fm27_ fm28_ fm29_ fm30_ fm31_))))))))
set_option maxRecDepth 65536 in
set_option maxHeartbeats 40000000 in
theorem tl21 {D0_ D1_ D2_ D3_ D4_ D5_ D6_ D7_ D8_ D9_ D10_ D11_ D14_ D15_ D16_ D17_ : Slot} (hw : HW a0 Z) :
    own_T l Z a0 A h0 28 124 326 #[D0_, D1_, D2_, D3_, D4_, D5_, D6_, D7_, D8_, D9_, D10_, D11_, SI 1, SI 0, D14_, D15_, D16_, D17_, SI 1, SI 1, SI 1] := by
  exact jLI at_326 rfl (jieqN at_328 (by decide) (jLI at_331 rfl (jineN at_333 (by decide) (jLI at_336 rfl (jLI at_338 rfl (jcneN at_340 (by decide) (jLI at_343 rfl (jieqN at_345 (by decide) (jkI 1 at_348 rfl (jgo 353 at_349 (jrZ at_353 rfl)))))))))))
set_option maxRecDepth 65536 in
set_option maxHeartbeats 40000000 in
theorem tl20 {D0_ D1_ D2_ D3_ D4_ D5_ D6_ D7_ D8_ : Slot} {A10_ : Addr} {D10_ D11_ D14_ D15_ D16_ D17_ : Slot} (hw : HW a0 Z) (fm1_ : Exa Z h0 A10_ cC8) (fm2_ : Fld Z h0 A10_ cC8 "exclusive" cC10 (.null)) (fm3_ : Fld Z h0 A10_ cC8 "others" cC11 (.null)) :
    own_T l Z a0 A h0 28 124 319 #[D0_, D1_, D2_, D3_, D4_, D5_, D6_, D7_, D8_, SR A10_, D10_, D11_, SI 1, SI 0, D14_, D15_, D16_, D17_, SI 1, SI 1, SU] := by
  refine jLA at_319 rfl (jcV 0 61 62 64 63 5 65 (nfS hw 64) (rm8_1 hw fm2_ fm3_) fm1_ pd5 at_321 rfl ?_)
  rintro _ _ ⟨rfl, rfl⟩
  exact jtI at_324 #[D0_, D1_, D2_, D3_, D4_, D5_, D6_, D7_, D8_, SR A10_, D10_, D11_, SI 1, SI 0, D14_, D15_, D16_, D17_, SI 1, SI 1, SI 1] rfl (own_mono (tl21 hw))
set_option maxRecDepth 65536 in
set_option maxHeartbeats 40000000 in
theorem tl19 {D0_ D1_ D2_ D3_ D4_ D5_ D6_ D7_ D8_ : Slot} {A10_ A11_ A12_ : Addr} {D14_ D15_ D16_ D17_ : Slot} (hw : HW a0 Z) (fm1_ : Exa Z h0 A10_ cC8) (fm2_ : Fld Z h0 A10_ cC8 "exclusive" cC10 (.null)) (fm3_ : Fld Z h0 A10_ cC8 "others" cC11 (.null)) :
    own_T l Z a0 A h0 21 102 303 #[D0_, D1_, D2_, D3_, D4_, D5_, D6_, D7_, D8_, SR A10_, SR A11_, SR A12_, SI 1, SI 0, D14_, D15_, D16_, D17_, SI 1, SI 1, SU] := by
  refine jLA at_303 rfl (jLA at_305 rfl (jcV 0 181 182 184 183 5 185 (nfS hw 184) (rm25_3 hw fm2_ fm1_ fm3_) fm1_ pd7 at_307 rfl ?_))
  rintro _ _ ⟨rfl, rfl⟩
  refine jpO at_310 rfl (jLA at_311 rfl (jLA at_313 rfl (jcV 0 181 182 184 183 5 185 (nfS hw 184) (rm25_3 hw fm2_ fm1_ fm3_) fm1_ pd7 at_315 rfl ?_)))
  rintro _ _ ⟨rfl, rfl⟩
  exact jpO at_318 rfl (own_mono (tl20 hw fm1_ fm2_ fm3_))
set_option maxRecDepth 65536 in
set_option maxHeartbeats 40000000 in
theorem tl18 {D0_ D1_ D2_ D3_ D4_ D5_ D6_ : Slot} {G7_ : Int32} {D8_ : Slot} {A10_ A11_ A12_ : Addr} {D14_ D16_ : Slot} (hw : HW a0 Z) (fm1_ : Exa Z h0 A10_ cC8) (fm2_ : Fld Z h0 A10_ cC8 "exclusive" cC10 (.null)) (fm3_ : Fld Z h0 A10_ cC8 "others" cC11 (.null)) (fm4_ : ¬ (G7_ = (0 : Int32))) :
    own_T l Z a0 A h0 21 102 274 #[D0_, D1_, D2_, D3_, D4_, D5_, D6_, SI G7_, D8_, SR A10_, SR A11_, SR A12_, SI 1, SI 0, D14_, SI 0, D16_, SI 0, SU, SU, SU] := by
  refine jLA at_274 rfl (jcV 0 61 62 64 63 5 65 (nfS hw 64) (rm8_1 hw fm2_ fm3_) fm1_ pd5 at_276 rfl ?_)
  rintro _ _ ⟨rfl, rfl⟩
  exact jtI at_279 #[D0_, D1_, D2_, D3_, D4_, D5_, D6_, SI G7_, D8_, SR A10_, SR A11_, SR A12_, SI 1, SI 0, D14_, SI 0, D16_, SI 0, SI 1, SU, SU] rfl (jLI at_281 rfl (jineN at_283 (by decide) (jLI at_286 rfl (jieqN at_288 fm4_ (jLI at_291 rfl (jineN at_293 (by decide) (jkI 1 at_296 rfl (jgo 301 at_297 (jtI at_301 #[D0_, D1_, D2_, D3_, D4_, D5_, D6_, SI G7_, D8_, SR A10_, SR A11_, SR A12_, SI 1, SI 0, D14_, SI 0, D16_, SI 0, SI 1, SI 1, SU] rfl (own_mono (tl19 hw fm1_ fm2_ fm3_)))))))))))
set_option maxRecDepth 65536 in
set_option maxHeartbeats 40000000 in
theorem tl13 {D0_ D1_ D2_ D3_ D4_ D5_ D6_ : Slot} {G7_ : Int32} {D8_ : Slot} {A10_ A11_ A12_ : Addr} {D16_ : Slot} {A14_ : Addr} {P15_ : Int32} {A16_ : Addr} {KK17_ : ClassId} {A18_ A19_ A20_ A21_ A22_ A23_ : Addr} {KK24_ : ClassId} {A25_ : Addr} (hw : HW a0 Z) (fm1_ : Exa Z h0 A10_ cC8) (fm2_ : Fld Z h0 A10_ cC8 "exclusive" cC10 (.null)) (fm3_ : Fld Z h0 A10_ cC8 "others" cC11 (VR A14_)) (fm4_ : Exa Z h0 A14_ cC21) (fm5_ : Fld Z h0 A14_ cC22 "modCount" "I" (VI P15_)) (fm6_ : Fld Z h0 A14_ cC21 "size" "I" (VI 1)) (fm7_ : Fld Z h0 A14_ cC21 "elementData" cC1 (VR A16_)) (fm8_ : Arv Z h0 A16_ KK17_ (.object "java/lang/Object") 2 [VR A18_, .null] (.null)) (fm9_ : Exa Z h0 A18_ cC18) (fm10_ : Fld Z h0 A18_ cC18 "granted" "Z" (VI 1)) (fm11_ : Fld Z h0 A18_ cC18 "transaction" cC10 (VR A11_)) (fm12_ : A11_ ≠ A12_) (fm13_ : Exa Z h0 A16_ cC1) (fm14_ : own_Mir Z cC1 A19_) (fm15_ : Sta Z Z.heap cC34 "EMPTY" cC9 (VR A20_)) (fm16_ : Fld Z h0 A18_ cC18 "mode" cC3 (VR A21_)) (fm17_ : Sta Z Z.heap cC2 "SHARED" cC3 (VR A21_)) (fm18_ : Z.heap.size ≤ A14_) (fm19_ : A16_ ≠ A14_) (fm20_ : Z.heap.size ≤ A16_) (fm21_ : A10_ ≠ A16_) (fm22_ : A10_ ≠ A14_) (fm23_ : Sta Z Z.heap cC34 "EMPTY_LIST" cC36 (VR A22_)) (fm24_ : Exa Z h0 A22_ cC0) (fm25_ : Fld Z h0 A22_ cC0 "elements" cC1 (VR A23_)) (fm26_ : A22_ ≠ A16_) (fm27_ : A22_ ≠ A14_) (fm28_ : Arv Z h0 A23_ KK24_ (.object "java/lang/Object") 0 [] (.null)) (fm29_ : A23_ ≠ A16_) (fm30_ : A23_ ≠ A14_) (fm31_ : Z.heap.size ≤ A10_) (fm32_ : Fld Z h0 A10_ cC8 "key" cC9 (VR A25_)) (fm33_ : Fld Z h0 A10_ cC8 "version" cC1 (.null)) :
    own_T l Z a0 A h0 15 77 234 #[D0_, D1_, D2_, D3_, D4_, D5_, D6_, SI G7_, D8_, SR A10_, SR A11_, SR A12_, SI 1, SI 0, SN, SI 0, D16_, SI 0, SU, SU, SU] := by
  by_cases hm0 : G7_ = (0 : Int32)
  ·
    refine jLI at_234 rfl (jieqY 250 at_236 (by decide) (jLI at_250 rfl (jieqY 266 at_252 hm0 (jLA at_266 rfl (jLA at_268 rfl (jcV 0 181 182 184 183 5 185 (nfS hw 184) (rm25_1 hw fm2_ fm1_ fm3_ fm4_ fm5_ fm6_ fm7_ fm8_ fm9_ fm10_ fm11_ fm12_ fm13_ fm14_ fm15_) fm1_ pd7 at_270 rfl ?_))))))
    rintro _ h1 ⟨rfl, K1⟩
    exact jpO at_273 rfl (own_mono (tl14 hw (fm1_.keep K1) (fm2_.keep K1 nin0) (fm3_.keep K1 nin0) hm0 (fm4_.keep K1) (fm5_.keep K1 nin0) (fm6_.keep K1 nin0) (fm7_.keep K1 nin0) (fm8_.keep K1 nin0) (fm9_.keep K1) (fm10_.keep K1 nin0) (fm11_.keep K1 nin0) (fm16_.keep K1 nin0) fm17_ fm18_ fm19_ fm20_ (fm13_.keep K1) fm21_ fm22_ fm23_ (fm24_.keep K1) (fm25_.keep K1 nin0) fm26_ fm27_ (fm28_.keep K1 nin0) fm29_ fm30_ fm31_ (fm32_.keep K1 nin0) (fm33_.keep K1 nin0)))
  ·
    refine jLI at_234 rfl (jieqY 250 at_236 (by decide) (jLI at_250 rfl (jieqN at_252 hm0 (jLA at_255 rfl (jLA at_257 rfl (jcV 0 181 182 184 183 5 185 (nfS hw 184) (rm25_2 hw fm2_ fm1_ fm3_ fm4_ fm5_ fm6_ fm7_ fm8_ fm9_ fm10_ fm11_ fm16_ fm17_ fm18_ fm19_ fm20_ fm13_ fm21_ fm22_ fm23_ fm24_ fm25_ fm26_ fm27_ fm28_ fm29_ fm30_ fm31_ fm32_ fm33_) fm1_ pd7 at_259 rfl ?_))))))
    rintro _ h1 ⟨rfl, K1, o0_1, o1_1, o2_1, o3_1, o4_1, o5_1, o6_1, o7_1, o8_1, o9_1, o10_1⟩
    exact jpO at_262 rfl (jgo 274 at_263 (own_mono (tl18 hw o6_1 o8_1 o7_1 hm0)))
set_option maxRecDepth 65536 in
set_option maxHeartbeats 40000000 in
theorem tl12 {D0_ D1_ D2_ D3_ D4_ D5_ D6_ : Slot} {G7_ G8_ : Int32} {A10_ A11_ A12_ A13_ : Addr} {P14_ : Int32} {A15_ : Addr} {KK16_ : ClassId} {A17_ A18_ A19_ A20_ A21_ A22_ : Addr} {KK23_ : ClassId} {A24_ : Addr} (hw : HW a0 Z) (fm1_ : Exa Z h0 A10_ cC8) (fm2_ : Fld Z h0 A10_ cC8 "exclusive" cC10 (.null)) (fm3_ : Fld Z h0 A10_ cC8 "others" cC11 (VR A13_)) (fm4_ : Exa Z h0 A13_ cC21) (fm5_ : Fld Z h0 A13_ cC22 "modCount" "I" (VI P14_)) (fm6_ : Fld Z h0 A13_ cC21 "size" "I" (VI 1)) (fm7_ : Fld Z h0 A13_ cC21 "elementData" cC1 (VR A15_)) (fm8_ : Arv Z h0 A15_ KK16_ (.object "java/lang/Object") 2 [VR A17_, .null] (.null)) (fm9_ : Exa Z h0 A17_ cC18) (fm10_ : Fld Z h0 A17_ cC18 "granted" "Z" (VI 1)) (fm11_ : Fld Z h0 A17_ cC18 "transaction" cC10 (VR A11_)) (fm12_ : A11_ ≠ A12_) (fm13_ : Exa Z h0 A15_ cC1) (fm14_ : own_Mir Z cC1 A18_) (fm15_ : Sta Z Z.heap cC34 "EMPTY" cC9 (VR A19_)) (fm16_ : Fld Z h0 A17_ cC18 "mode" cC3 (VR A20_)) (fm17_ : Sta Z Z.heap cC2 "SHARED" cC3 (VR A20_)) (fm18_ : Z.heap.size ≤ A13_) (fm19_ : A15_ ≠ A13_) (fm20_ : Z.heap.size ≤ A15_) (fm21_ : A10_ ≠ A15_) (fm22_ : A10_ ≠ A13_) (fm23_ : Sta Z Z.heap cC34 "EMPTY_LIST" cC36 (VR A21_)) (fm24_ : Exa Z h0 A21_ cC0) (fm25_ : Fld Z h0 A21_ cC0 "elements" cC1 (VR A22_)) (fm26_ : A21_ ≠ A15_) (fm27_ : A21_ ≠ A13_) (fm28_ : Arv Z h0 A22_ KK23_ (.object "java/lang/Object") 0 [] (.null)) (fm29_ : A22_ ≠ A15_) (fm30_ : A22_ ≠ A13_) (fm31_ : Z.heap.size ≤ A10_) (fm32_ : Fld Z h0 A10_ cC8 "key" cC9 (VR A24_)) (fm33_ : Fld Z h0 A10_ cC8 "version" cC1 (.null)) :
    own_T l Z a0 A h0 15 77 217 #[D0_, D1_, D2_, D3_, D4_, D5_, D6_, SI G7_, SI G8_, SR A10_, SR A11_, SR A12_, SI 1, SI 0, SN, SI 0, SI 0, SU, SU, SU, SU] := by
  exact jLI at_217 rfl (jieqY 231 at_219 (by decide) (jkI 0 at_231 rfl (jtI at_232 #[D0_, D1_, D2_, D3_, D4_, D5_, D6_, SI G7_, SI G8_, SR A10_, SR A11_, SR A12_, SI 1, SI 0, SN, SI 0, SI 0, SI 0, SU, SU, SU] rfl (own_mono (tl13 hw fm1_ fm2_ fm3_ fm4_ fm5_ fm6_ fm7_ fm8_ fm9_ fm10_ fm11_ fm12_ fm13_ fm14_ fm15_ fm16_ fm17_ fm18_ fm19_ fm20_ fm21_ fm22_ fm23_ fm24_ fm25_ fm26_ fm27_ fm28_ fm29_ fm30_ fm31_ fm32_ fm33_)))))
set_option maxRecDepth 65536 in
set_option maxHeartbeats 40000000 in
theorem tl11 {D0_ D1_ D2_ : Slot} {A4_ : Addr} {D4_ D5_ : Slot} {G7_ G8_ : Int32} {A9_ A10_ A11_ A12_ : Addr} {P13_ : Int32} {A14_ : Addr} {KK15_ : ClassId} {A16_ A17_ A18_ A19_ A20_ : Addr} {KK21_ : ClassId} {A22_ : Addr} (hw : HW a0 Z) (fm1_ : Exa Z h0 A9_ cC8) (fm2_ : Fld Z h0 A9_ cC8 "exclusive" cC10 (.null)) (fm3_ : Fld Z h0 A9_ cC8 "others" cC11 (VR A12_)) (fm4_ : Exa Z h0 A12_ cC21) (fm5_ : Fld Z h0 A12_ cC22 "modCount" "I" (VI P13_)) (fm6_ : Fld Z h0 A12_ cC21 "size" "I" (VI 1)) (fm7_ : Fld Z h0 A12_ cC21 "elementData" cC1 (VR A14_)) (fm8_ : Arv Z h0 A14_ KK15_ (.object "java/lang/Object") 2 [VR A16_, .null] (.null)) (fm9_ : Exa Z h0 A16_ cC18) (fm10_ : Fld Z h0 A16_ cC18 "granted" "Z" (VI 1)) (fm11_ : Fld Z h0 A16_ cC18 "transaction" cC10 (VR A10_)) (fm12_ : A10_ ≠ A11_) (fm13_ : Exa Z h0 A14_ cC1) (fm14_ : own_Mir Z cC1 A17_) (fm15_ : Sta Z Z.heap cC34 "EMPTY" cC9 (VR A18_)) (fm16_ : Fld Z h0 A16_ cC18 "mode" cC3 (VR A4_)) (fm17_ : Sta Z Z.heap cC2 "SHARED" cC3 (VR A4_)) (fm18_ : Z.heap.size ≤ A12_) (fm19_ : A14_ ≠ A12_) (fm20_ : Z.heap.size ≤ A14_) (fm21_ : A9_ ≠ A14_) (fm22_ : A9_ ≠ A12_) (fm23_ : Sta Z Z.heap cC34 "EMPTY_LIST" cC36 (VR A19_)) (fm24_ : Exa Z h0 A19_ cC0) (fm25_ : Fld Z h0 A19_ cC0 "elements" cC1 (VR A20_)) (fm26_ : A19_ ≠ A14_) (fm27_ : A19_ ≠ A12_) (fm28_ : Arv Z h0 A20_ KK21_ (.object "java/lang/Object") 0 [] (.null)) (fm29_ : A20_ ≠ A14_) (fm30_ : A20_ ≠ A12_) (fm31_ : Z.heap.size ≤ A9_) (fm32_ : Fld Z h0 A9_ cC8 "key" cC9 (VR A22_)) (fm33_ : Fld Z h0 A9_ cC8 "version" cC1 (.null)) :
    own_T l Z a0 A h0 15 77 190 #[D0_, D1_, D2_, SR A4_, D4_, D5_, SR A4_, SI G7_, SI G8_, SR A9_, SR A10_, SR A11_, SI 1, SI 0, SN, SI 0, SU, SU, SU, SU, SU] := by
  exact jLI at_190 rfl (jieqY 214 at_192 (by decide) (jkI 0 at_214 rfl (jtI at_215 #[D0_, D1_, D2_, SR A4_, D4_, D5_, SR A4_, SI G7_, SI G8_, SR A9_, SR A10_, SR A11_, SI 1, SI 0, SN, SI 0, SI 0, SU, SU, SU, SU] rfl (own_mono (tl12 hw fm1_ fm2_ fm3_ fm4_ fm5_ fm6_ fm7_ fm8_ fm9_ fm10_ fm11_ fm12_ fm13_ fm14_ fm15_ fm16_ fm17_ fm18_ fm19_ fm20_ fm21_ fm22_ fm23_ fm24_ fm25_ fm26_ fm27_ fm28_ fm29_ fm30_ fm31_ fm32_ fm33_)))))
set_option maxRecDepth 65536 in
set_option maxHeartbeats 40000000 in
theorem tl10 {D0_ D1_ D2_ : Slot} {A4_ : Addr} {G4_ G5_ G7_ G8_ : Int32} {A9_ A10_ A11_ A12_ : Addr} {P13_ : Int32} {A14_ : Addr} {KK15_ : ClassId} {A16_ A17_ A18_ A19_ A20_ : Addr} {KK21_ : ClassId} {A22_ : Addr} (hw : HW a0 Z) (fm1_ : G4_ = (0 : Int32)) (fm2_ : Exa Z h0 A9_ cC8) (fm3_ : Fld Z h0 A9_ cC8 "exclusive" cC10 (.null)) (fm4_ : Fld Z h0 A9_ cC8 "others" cC11 (VR A12_)) (fm5_ : Exa Z h0 A12_ cC21) (fm6_ : Fld Z h0 A12_ cC22 "modCount" "I" (VI P13_)) (fm7_ : Fld Z h0 A12_ cC21 "size" "I" (VI 1)) (fm8_ : Fld Z h0 A12_ cC21 "elementData" cC1 (VR A14_)) (fm9_ : Arv Z h0 A14_ KK15_ (.object "java/lang/Object") 2 [VR A16_, .null] (.null)) (fm10_ : Exa Z h0 A16_ cC18) (fm11_ : Fld Z h0 A16_ cC18 "granted" "Z" (VI 1)) (fm12_ : Fld Z h0 A16_ cC18 "transaction" cC10 (VR A10_)) (fm13_ : A10_ ≠ A11_) (fm14_ : Exa Z h0 A14_ cC1) (fm15_ : own_Mir Z cC1 A17_) (fm16_ : Sta Z Z.heap cC34 "EMPTY" cC9 (VR A18_)) (fm17_ : Fld Z h0 A16_ cC18 "mode" cC3 (VR A4_)) (fm18_ : Sta Z Z.heap cC2 "SHARED" cC3 (VR A4_)) (fm19_ : Z.heap.size ≤ A12_) (fm20_ : A14_ ≠ A12_) (fm21_ : Z.heap.size ≤ A14_) (fm22_ : A9_ ≠ A14_) (fm23_ : A9_ ≠ A12_) (fm24_ : Sta Z Z.heap cC34 "EMPTY_LIST" cC36 (VR A19_)) (fm25_ : Exa Z h0 A19_ cC0) (fm26_ : Fld Z h0 A19_ cC0 "elements" cC1 (VR A20_)) (fm27_ : A19_ ≠ A14_) (fm28_ : A19_ ≠ A12_) (fm29_ : Arv Z h0 A20_ KK21_ (.object "java/lang/Object") 0 [] (.null)) (fm30_ : A20_ ≠ A14_) (fm31_ : A20_ ≠ A12_) (fm32_ : Z.heap.size ≤ A9_) (fm33_ : Fld Z h0 A9_ cC8 "key" cC9 (VR A22_)) (fm34_ : Fld Z h0 A9_ cC8 "version" cC1 (.null)) :
    own_T l Z a0 A h0 15 77 173 #[D0_, D1_, D2_, SR A4_, SI G4_, SI G5_, SR A4_, SI G7_, SI G8_, SR A9_, SR A10_, SR A11_, SI 1, SI 0, SN, SU, SU, SU, SU, SU, SU] := by
  exact jLI at_173 rfl (jieqY 187 at_175 fm1_ (jkI 0 at_187 rfl (jtI at_188 #[D0_, D1_, D2_, SR A4_, SI G4_, SI G5_, SR A4_, SI G7_, SI G8_, SR A9_, SR A10_, SR A11_, SI 1, SI 0, SN, SI 0, SU, SU, SU, SU, SU] rfl (own_mono (tl11 hw fm2_ fm3_ fm4_ fm5_ fm6_ fm7_ fm8_ fm9_ fm10_ fm11_ fm12_ fm13_ fm14_ fm15_ fm16_ fm17_ fm18_ fm19_ fm20_ fm21_ fm22_ fm23_ fm24_ fm25_ fm26_ fm27_ fm28_ fm29_ fm30_ fm31_ fm32_ fm33_ fm34_)))))
set_option maxRecDepth 65536 in
set_option maxHeartbeats 40000000 in
theorem rm10_2 {a1 a2 a5 : Addr} {p8 : Int32} {a11 : Addr} {k13 : ClassId} {a14 a18 : Addr} (hw : HW a0 Z) (f3 : Fld Z h0 a1 cC8 "exclusive" cC10 (.null)) (f4 : Exa Z h0 a1 cC8) (f6 : Fld Z h0 a1 cC8 "others" cC11 (VR a5)) (f7 : Exa Z h0 a5 cC21) (f9 : Fld Z h0 a5 cC22 "modCount" "I" (VI p8)) (f10 : Fld Z h0 a5 cC21 "size" "I" (VI 1)) (f12 : Fld Z h0 a5 cC21 "elementData" cC1 (VR a11)) (f15 : Arv Z h0 a11 k13 (.object "java/lang/Object") 2 [VR a14, .null] (.null)) (f16 : Exa Z h0 a14 cC18) (f17 : Fld Z h0 a14 cC18 "granted" "Z" (VI 1)) (f19 : Fld Z h0 a14 cC18 "transaction" cC10 (VR a18)) (f20 : a18 ≠ a2) :
    own_M l Z h0 yM10 c10 2 (some .boolean) 4 1 4 54 #[VR a1, VR a2] (fun v h => v = some (VI 0) ∧ Keep h0 h []) := by
  refine own_ent hw (plainFor_of_name pn2) #[SR a1, SR a2] (fun _ => rfl) fun Q k => ?_
  refine jLa d10_0 rfl (jgF 66 f3 d10_1 (jLa d10_4 rfl (jac 8 d10_5 (decide_eq_false nofun) (jLa d10_8 rfl (jLa d10_9 rfl (jcP 0 82 4 84 83 5 85 (rm11_2 hw f6 f7 f9 f10 f12 f15 f16 f17 f19 f20) f4 pd6 d10_10 rfl ?_))))))
  rintro _ h21 ⟨rfl, K21⟩
  exact jzY 20 d10_13 (jkI 0 d10_20 rfl (jrZ d10_21 (k _ _ ⟨rfl, ((Keep.refl h0 []).trans K21 all0)⟩)))
set_option maxRecDepth 65536 in
set_option maxHeartbeats 40000000 in
theorem rm56_1 {a1 : Addr} (hw : HW a0 Z) (f2 : Fld Z h0 a1 cC21 "size" "I" (VI 1)) :
    own_M l Z h0 yM53 c56 1 (some .int) 0 0 0 0 #[VR a1] (fun v h => v = some (VI 1) ∧ h0 = h) := by
  refine own_ent hw (plainFor_of_name pn15) #[SR a1] (fun _ => rfl) fun Q k => ?_
  exact jLa d56_0 rfl (jgF 141 f2 d56_1 (jrI d56_4 (k _ _ ⟨rfl, rfl⟩)))
set_option maxRecDepth 65536 in
set_option maxHeartbeats 40000000 in
theorem rm59_1 {p1 p2 : Int32} (hw : HW a0 Z) (f3 : ¬ (p1 < (0 : Int32))) (f4 : p1 < p2) :
    own_M l Z h0 yM54 c59 3 (some .int) 0 0 0 0 #[VI p1, VI p2, .null] (fun v h => v = some (VI p1) ∧ h0 = h) := by
  refine own_ent hw (plainFor_of_name pn59) #[SI p1, SI p2, SN] (fun _ => rfl) fun Q k => ?_
  exact jLi d59_0 rfl (jiltN d59_1 f3 (jLi d59_4 rfl (jLi d59_5 rfl (jcltY 16 d59_6 f4 (jLi d59_16 rfl (jrI d59_17 (k _ _ ⟨rfl, rfl⟩)))))))
set_option maxRecDepth 65536 in
set_option maxHeartbeats 40000000 in
theorem rm58_1 {p1 p2 : Int32} (hw : HW a0 Z) (f3 : ¬ (p1 < (0 : Int32))) (f4 : p1 < p2) :
    own_M l Z h0 yM55 c58 2 (some .int) 1 0 0 14 #[VI p1, VI p2] (fun v h => v = some (VI p1) ∧ h0 = h) := by
  refine own_ent hw (plainFor_of_name pn42) #[SI p1, SI p2] (fun _ => rfl) fun Q k => ?_
  refine jLi d58_0 rfl (jLi d58_1 rfl (jkN d58_2 (jcS 0 437 438 439 440 (rm59_1 hw f3 f4) pd31 d58_3 rfl ?_)))
  rintro _ _ ⟨rfl, rfl⟩
  exact jrI d58_6 (k _ _ ⟨rfl, rfl⟩)
set_option maxRecDepth 65536 in
set_option maxHeartbeats 40000000 in
theorem rm60_1 {a1 a2 : Addr} {k4 : ClassId} {a5 : Addr} (hw : HW a0 Z) (f3 : Fld Z h0 a1 cC21 "elementData" cC1 (VR a2)) (f6 : Arv Z h0 a2 k4 (.object "java/lang/Object") 2 [VR a5, .null] (.null)) :
    own_M l Z h0 yM56 c60 2 (some (.object cC24)) 0 0 0 0 #[VR a1, VI 0] (fun v h => v = some (VR a5) ∧ h0 = h) := by
  refine own_ent hw (plainFor_of_name pn15) #[SR a1, SI 0] (fun _ => rfl) fun Q k => ?_
  exact jLa d60_0 rfl (jgF 130 f3 d60_1 (jLi d60_4 rfl (jaa f6 (by decide) (VR a5) rfl d60_5 (jrA d60_6 (k _ _ ⟨rfl, rfl⟩)))))
set_option maxRecDepth 65536 in
set_option maxHeartbeats 40000000 in
theorem rm57_1 {a1 a5 : Addr} {k7 : ClassId} {a8 : Addr} (hw : HW a0 Z) (f2 : Fld Z h0 a1 cC21 "size" "I" (VI 1)) (f4 : Exa Z h0 a1 cC21) (f6 : Fld Z h0 a1 cC21 "elementData" cC1 (VR a5)) (f9 : Arv Z h0 a5 k7 (.object "java/lang/Object") 2 [VR a8, .null] (.null)) :
    own_M l Z h0 yM57 c57 2 (some (.object cC24)) 2 0 0 27 #[VR a1, VI 0] (fun v h => v = some (VR a8) ∧ h0 = h) := by
  refine own_ent hw (plainFor_of_name pn15) #[SR a1, SI 0] (fun _ => rfl) fun Q k => ?_
  refine jLi d57_0 rfl (jLa d57_1 rfl (jgF 141 f2 d57_2 (jcS 0 434 435 317 436 (rm58_1 hw (by decide) (by decide)) pd20 d57_5 rfl ?_)))
  rintro _ _ ⟨rfl, rfl⟩
  refine jpO d57_8 rfl (jLa d57_9 rfl (jLi d57_10 rfl (jcV 0 441 442 444 443 110 445 (nfS hw 444) (rm60_1 hw f6 f9) f4 pd29 d57_11 rfl ?_)))
  rintro _ _ ⟨rfl, rfl⟩
  exact jrA d57_14 (k _ _ ⟨rfl, rfl⟩)
set_option maxRecDepth 65536 in
set_option maxHeartbeats 40000000 in
theorem rm61_1 {a1 : Addr} (hw : HW a0 Z) (f2 : Sta Z Z.heap cC2 "SHARED" cC3 (VR a1)) :
    own_M l Z h0 yM58 c61 2 (some .boolean) 0 0 0 0 #[VR a1, VR a1] (fun v h => v = some (VI 1) ∧ h0 = h) := by
  refine own_ent hw (plainFor_of_name pn61) #[SR a1, SR a1] (fun _ => rfl) fun Q k => ?_
  exact jLa d61_0 rfl (jgS 451 f2 d61_1 (jac 7 d61_4 (decide_eq_true rfl) (jLa d61_7 rfl (jgS 451 f2 d61_8 (jac 14 d61_11 (decide_eq_true rfl) (jkI 1 d61_14 rfl (jgo 19 d61_15 (jrZ d61_19 (k _ _ ⟨rfl, rfl⟩)))))))))
set_option maxRecDepth 65536 in
set_option maxHeartbeats 40000000 in
theorem rm14_2 {a1 a2 a7 a13 a22 : Addr} {k25 : ClassId} {a26 a34 a38 a45 : Addr} (hw : HW a0 Z) (f8 : Sta Z Z.heap cC21 "DEFAULTCAPACITY_EMPTY_ELEMENTDATA" cC1 (VR a7)) (f10 : Fld Z h0 a1 cC8 "exclusive" cC10 (.null)) (f14 : Fld Z h0 a1 cC8 "others" cC11 (VR a13)) (f16 : Exa Z h0 a13 cC21) (f18 : Fld Z h0 a13 cC21 "size" "I" (VI 1)) (f23 : Fld Z h0 a13 cC21 "elementData" cC1 (VR a22)) (f27 : Arv Z h0 a22 k25 (.object "java/lang/Object") 2 [VR a26, .null] (.null)) (f31 : Exa Z h0 a26 cC18) (f33 : a26 ≠ a2) (f35 : Fld Z h0 a26 cC18 "transaction" cC10 (VR a34)) (f39 : Fld Z h0 a2 cC18 "transaction" cC10 (VR a38)) (f42 : a34 ≠ a38) (f43 : Fld Z h0 a26 cC18 "granted" "Z" (VI 1)) (f46 : Fld Z h0 a26 cC18 "mode" cC3 (VR a45)) (f48 : Fld Z h0 a2 cC18 "mode" cC3 (VR a45)) (f50 : Exa Z h0 a45 cC2) (f52 : Sta Z Z.heap cC2 "SHARED" cC3 (VR a45)) :
    own_M l Z h0 yM15 c14 6 (some (.object cC23)) 4 1 3 49 #[VR a1, VR a2] (fun v h => ∃ (b3 : Addr), v = some (VR b3) ∧ Keep h0 h [] ∧ h0.size ≤ b3 ∧ Exa Z h b3 cC21 ∧ Fld Z h b3 cC22 "modCount" "I" (VI 0) ∧ Fld Z h b3 cC21 "elementData" cC1 (VR a7) ∧ Fld Z h b3 cC21 "size" "I" (VI 0)) := by
  refine own_ent hw (plainFor_of_name pn2) #[SR a1, SR a2, SU, SU, SU, SU] (fun _ => rfl) fun Q k => ?_
  refine jnew 108 109 110 d14_0 fun b3 h3 g3 u3 E3 A3 D3 => ?_
  refine jdU d14_3 rfl (jcI 1 111 112 110 113 (rm15_1 hw A3 (dI D3 (lA hw 128)) u3 (dN D3 (lA hw 131)) (dI D3 (lA hw 142)) f8) pd0 d14_4 rfl ?_)
  rintro _ h9 ⟨rfl, K9, o0_9, o1_9, o2_9, o3_9⟩
  have v11 := own_lo f10.lt g3
  have F15 := (f14.ext E3).keep K9 (ninS v11 nin0)
  have F17 := (f16.ext E3).keep K9
  have v19 := own_lo f16.lt g3
  have F20 := (f18.ext E3).keep K9 (ninS v19 nin0)
  refine jta d14_7 #[SR a1, SR a2, SR b3, SU, SU, SU] rfl (jLa d14_8 rfl (jgF 66 ((f10.ext E3).keep K9 (ninS v11 nin0)) d14_9 (jzY 26 d14_12 (jkI 1 d14_26 rfl (jti d14_27 #[SR a1, SR a2, SR b3, SI 1, SU, SU] rfl (jkI 0 d14_28 rfl (jtI d14_29 #[SR a1, SR a2, SR b3, SI 1, SI 0, SU] rfl (jLa d14_31 rfl (jgF 68 F15 d14_32 (jzN d14_35 (jLI d14_38 rfl (jLa d14_40 rfl (jgF 68 F15 d14_41 (jcF 1 420 421 422 423 424 425 426 139 110 427 (rm56_1 hw F20) F17 pd27 d14_44 rfl ?_))))))))))))))
  rintro _ _ ⟨rfl, rfl⟩
  refine jcgeN d14_49 (by decide) (jLa d14_52 rfl (jgF 68 F15 d14_53 (jLI d14_56 rfl (jcF 0 428 364 365 429 430 431 432 139 110 433 (rm57_1 hw F20 F17 ((f23.ext E3).keep K9 (ninS v19 nin0)) ((f27.ext E3).keep K9 (ninS (own_lo f27.lt g3) nin0))) F17 pd29 d14_58 rfl ?_))))
  rintro _ _ ⟨rfl, rfl⟩
  have v36 := own_lo f31.lt g3
  have v40 := own_lo f39.lt g3
  refine jcY 75 (Ins.self ((f31.ext E3).keep K9)) d14_63 (jtA d14_66 #[SR a1, SR a2, SR b3, SI 1, SI 0, SR a26] rfl (jLA d14_68 rfl (jLa d14_70 rfl (jac 79 d14_71 (own_dn f33) (jLA d14_79 rfl (jgR 236 ((f35.ext E3).keep K9 (ninS v36 nin0)) d14_81 (jLa d14_84 rfl (jgR 236 ((f39.ext E3).keep K9 (ninS v40 nin0)) d14_85 (jac 91 d14_88 (own_dn f42) (jLA d14_91 rfl (jgR 175 ((f43.ext E3).keep K9 (ninS v36 nin0)) d14_93 (jineY 103 d14_96 (by decide) (jLA d14_103 rfl (jgR 147 ((f46.ext E3).keep K9 (ninS v36 nin0)) d14_105 (jLa d14_108 rfl ?_)))))))))))))))
  refine jgR 147 ((f48.ext E3).keep K9 (ninS v40 nin0)) d14_109 (jcV 0 446 447 449 448 1 450 (nfS hw 449) (rm61_1 hw f52) ((f50.ext E3).keep K9) pd32 d14_112 rfl ?_)
  rintro _ _ ⟨rfl, rfl⟩
  refine jineY 130 d14_115 (by decide) (jiC d14_130 #[SR a1, SR a2, SR b3, SI 1, SI 1, SR a26] rfl rfl (jgo 31 d14_133 (jLa d14_31 rfl (jgF 68 F15 d14_32 (jzN d14_35 (jLI d14_38 rfl (jLa d14_40 rfl (jgF 68 F15 d14_41 (jcF 1 420 421 422 423 424 425 426 139 110 427 (rm56_1 hw F20) F17 pd27 d14_44 rfl ?_)))))))))
  rintro _ _ ⟨rfl, rfl⟩
  exact jcgeY 136 d14_49 (by decide) (jLa d14_136 rfl (jrA d14_137 (k _ _ ⟨b3, rfl, (((Keep.refl h0 []).ext E3).trans K9 (allS (Or.inr g3) all0)), g3, o0_9, o1_9, o2_9, o3_9⟩)))
set_option maxRecDepth 65536 in
set_option maxHeartbeats 40000000 in
theorem rm13_2 {a1 a2 a4 a7 a11 : Addr} {k13 : ClassId} {a14 a18 a20 a24 : Addr} (hw : HW a0 Z) (f3 : Exa Z h0 a1 cC8) (f5 : Sta Z Z.heap cC21 "DEFAULTCAPACITY_EMPTY_ELEMENTDATA" cC1 (VR a4)) (f6 : Fld Z h0 a1 cC8 "exclusive" cC10 (.null)) (f8 : Fld Z h0 a1 cC8 "others" cC11 (VR a7)) (f9 : Exa Z h0 a7 cC21) (f10 : Fld Z h0 a7 cC21 "size" "I" (VI 1)) (f12 : Fld Z h0 a7 cC21 "elementData" cC1 (VR a11)) (f15 : Arv Z h0 a11 k13 (.object "java/lang/Object") 2 [VR a14, .null] (.null)) (f16 : Exa Z h0 a14 cC18) (f17 : a14 ≠ a2) (f19 : Fld Z h0 a14 cC18 "transaction" cC10 (VR a18)) (f21 : Fld Z h0 a2 cC18 "transaction" cC10 (VR a20)) (f22 : a18 ≠ a20) (f23 : Fld Z h0 a14 cC18 "granted" "Z" (VI 1)) (f25 : Fld Z h0 a14 cC18 "mode" cC3 (VR a24)) (f26 : Fld Z h0 a2 cC18 "mode" cC3 (VR a24)) (f27 : Exa Z h0 a24 cC2) (f28 : Sta Z Z.heap cC2 "SHARED" cC3 (VR a24)) :
    own_M l Z h0 yM17 c13 2 (some .boolean) 5 1 3 66 #[VR a1, VR a2] (fun v h => v = some (VI 1) ∧ Keep h0 h []) := by
  refine own_ent hw (plainFor_of_name pn2) #[SR a1, SR a2] (fun _ => rfl) fun Q k => ?_
  refine jLa d13_0 rfl (jLa d13_1 rfl (jcV 0 103 104 106 105 5 107 (nfS hw 106) (rm14_2 hw f5 f6 f8 f9 f10 f12 f15 f16 f17 f19 f21 f22 f23 f25 f26 f27 f28) f3 pd9 d13_2 rfl ?_))
  rintro _ h29 ⟨b3_29, rfl, K29, lob3_29, o0_29, o1_29, o2_29, o3_29⟩
  refine jcF 0 132 133 134 135 136 137 138 139 110 140 (rm18_1 hw o3_29) o0_29 pd5 d13_5 rfl ?_
  rintro _ _ ⟨rfl, rfl⟩
  exact jrZ d13_10 (k _ _ ⟨rfl, ((Keep.refl h0 []).trans K29 all0)⟩)
set_option maxRecDepth 65536 in
set_option maxHeartbeats 40000000 in
theorem rm69_1 {a1 a2 a3 : Addr} {k5 : ClassId} {a6 : Addr} (hw : HW a0 Z) (f4 : Fld Z h0 a1 cC21 "elementData" cC1 (VR a3)) (f7 : Arv Z h0 a3 k5 (.object "java/lang/Object") 2 [VR a6, .null] (.null)) (f8 : Exa Z h0 a2 cC18) (f9 : a2 ≠ a6) :
    own_M l Z h0 yM59 c69 6 (some .int) 1 0 0 13 #[VR a1, VR a2, VI 0, VI 1] (fun v h => v = some (VI (-1)) ∧ h0 = h) := by
  refine own_ent hw (plainFor_of_name pn15) #[SR a1, SR a2, SI 0, SI 1, SU, SU] (fun _ => rfl) fun Q k => ?_
  refine jLa d69_0 rfl (jgF 130 f4 d69_1 (jtA d69_4 #[SR a1, SR a2, SI 0, SI 1, SR a3, SU] rfl (jLa d69_6 rfl (jyY 39 d69_7 (jLi d69_39 rfl (jtI d69_40 #[SR a1, SR a2, SI 0, SI 1, SR a3, SI 0] rfl (jLI d69_42 rfl (jLi d69_44 rfl (jcgeN d69_45 (by decide) (jLa d69_48 rfl (jLA d69_49 rfl (jLI d69_51 rfl (jaa f7 (by decide) (VR a6) rfl d69_53 (jeF 0 379 380 382 381 383 f9 (nfT hw 253) f8 d69_54 (jieqY 63 d69_57 (by decide) ?_)))))))))))))))
  exact jiC d69_63 #[SR a1, SR a2, SI 0, SI 1, SR a3, SI 1] rfl rfl (jgo 42 d69_66 (jLI d69_42 rfl (jLi d69_44 rfl (jcgeY 69 d69_45 (by decide) (jkI (-1) d69_69 rfl (jrI d69_70 (k _ _ ⟨rfl, rfl⟩)))))))
set_option maxRecDepth 65536 in
set_option maxHeartbeats 40000000 in
theorem rm68_1 {a1 a2 a5 : Addr} {k7 : ClassId} {a8 : Addr} (hw : HW a0 Z) (f3 : Fld Z h0 a1 cC21 "size" "I" (VI 1)) (f4 : Exa Z h0 a1 cC21) (f6 : Fld Z h0 a1 cC21 "elementData" cC1 (VR a5)) (f9 : Arv Z h0 a5 k7 (.object "java/lang/Object") 2 [VR a8, .null] (.null)) (f10 : Exa Z h0 a2 cC18) (f11 : a2 ≠ a8) :
    own_M l Z h0 yM60 c68 2 (some .int) 2 0 0 30 #[VR a1, VR a2] (fun v h => v = some (VI (-1)) ∧ h0 = h) := by
  refine own_ent hw (plainFor_of_name pn15) #[SR a1, SR a2] (fun _ => rfl) fun Q k => ?_
  refine jLa d68_0 rfl (jLa d68_1 rfl (jkI 0 d68_2 rfl (jLa d68_3 rfl (jgF 141 f3 d68_4 (jcV 0 488 489 491 490 110 492 (nfS hw 491) (rm69_1 hw f6 f9 f10 f11) f4 pd33 d68_7 rfl ?_)))))
  rintro _ _ ⟨rfl, rfl⟩
  exact jrI d68_10 (k _ _ ⟨rfl, rfl⟩)
set_option maxRecDepth 65536 in
set_option maxHeartbeats 40000000 in
theorem rm67_1 {a1 a2 a5 : Addr} {k7 : ClassId} {a8 : Addr} (hw : HW a0 Z) (f3 : Exa Z h0 a1 cC21) (f4 : Fld Z h0 a1 cC21 "size" "I" (VI 1)) (f6 : Fld Z h0 a1 cC21 "elementData" cC1 (VR a5)) (f9 : Arv Z h0 a5 k7 (.object "java/lang/Object") 2 [VR a8, .null] (.null)) (f10 : Exa Z h0 a2 cC18) (f11 : a2 ≠ a8) :
    own_M l Z h0 yM61 c67 2 (some .boolean) 3 0 0 43 #[VR a1, VR a2] (fun v h => v = some (VI 0) ∧ h0 = h) := by
  refine own_ent hw (plainFor_of_name pn15) #[SR a1, SR a2] (fun _ => rfl) fun Q k => ?_
  refine jLa d67_0 rfl (jLa d67_1 rfl (jcV 0 483 484 486 485 110 487 (nfS hw 486) (rm68_1 hw f4 f3 f6 f9 f10 f11) f3 pd34 d67_2 rfl ?_))
  rintro _ _ ⟨rfl, rfl⟩
  exact jiltY 12 d67_5 (by decide) (jkI 0 d67_12 rfl (jrZ d67_13 (k _ _ ⟨rfl, rfl⟩)))
set_option maxRecDepth 65536 in
set_option maxHeartbeats 40000000 in
theorem rm20_2 {a1 a2 : Addr} (hw : HW a0 Z) (f3 : Fld Z h0 a1 cC8 "others" cC11 (VR a2)) :
    own_M l Z h0 yM19 c20 1 (some (.object cC23)) 0 0 0 0 #[VR a1] (fun v h => v = some (VR a2) ∧ h0 = h) := by
  refine own_ent hw (plainFor_of_name pn2) #[SR a1] (fun _ => rfl) fun Q k => ?_
  exact jLa d20_0 rfl (jgF 68 f3 d20_1 (jyY 19 d20_4 (jLa d20_19 rfl (jgF 68 f3 d20_20 (jrA d20_23 (k _ _ ⟨rfl, rfl⟩))))))
set_option maxRecDepth 65536 in
set_option maxHeartbeats 40000000 in
theorem rm23_2 {a1 a2 a3 : Addr} {k4 : ClassId} {a5 : Addr} {p22 : Int32} (hw : HW a0 Z) (f6 : Arv Z h0 a3 k4 (.object "java/lang/Object") 2 [VR a5, .null] (.null)) (f7 : Z.heap.size ≤ a3) (f8 : Ovr Z k4 cC24) (f9 : Exa Z h0 a2 cC18) (f11 : Exa Z h0 a1 cC21) (f13 : Fld Z h0 a1 cC21 "size" "I" (VI 1)) (f14 : a1 ≠ a3) (f16 : Z.heap.size ≤ a1) (f19 : Exa Z h0 a3 cC1) (f23 : Fld Z h0 a1 cC22 "modCount" "I" (VI p22)) (f25 : Fld Z h0 a1 cC21 "elementData" cC1 (VR a3)) :
    own_M l Z h0 yM20 c23 4 none 0 0 0 0 #[VR a1, VR a2, VR a3, VI 1] (fun v h => v = none ∧ Keep h0 h [a3, a1] ∧ Arv Z h a3 k4 (.object "java/lang/Object") 2 [VR a5, VR a2] (.null) ∧ Exa Z h a3 cC1 ∧ Exa Z h a1 cC21 ∧ Fld Z h a1 cC21 "size" "I" (VI 2) ∧ Fld Z h a1 cC22 "modCount" "I" (VI p22) ∧ Fld Z h a1 cC21 "elementData" cC1 (VR a3)) := by
  refine own_ent hw (plainFor_of_name pn15) #[SR a1, SR a2, SR a3, SI 1] (fun _ => rfl) fun Q k => ?_
  refine jLi d23_0 rfl (jLa d23_1 rfl (jal f6 d23_2 (jcneY 11 d23_3 (by decide) (jLa d23_11 rfl (jLi d23_12 rfl (jLa d23_13 rfl (jsR f6 f8 (Ins.of_exa f9 (WW hw 174)) (by decide) f7 1 [VR a5, VR a2] d23_14 rfl rfl fun h10 W10 V10 => ?_)))))))
  have F12 := f11.wr W10
  refine jLa d23_15 rfl (jLi d23_16 rfl (jkI 1 d23_17 rfl (jiadd d23_18 (jpFI 141 142 109 (fW f13 W10 f14) F12 f16 d23_19 fun h17 W17 F17 => ?_))))
  exact jrV d23_22 (k _ _ ⟨rfl, (((Keep.refl h0 [a3, a1]).wr W10 (mI 0)).wr W17 (mI 1)), (V10.other W17 f14.symm), ((f19.wr W10).wr W17), (F12.wr W17), F17, (fS (fW f23 W10 f14) W17 (lA hw 128) (lA hw 142)), (fS (fW f25 W10 f14) W17 (lA hw 131) (lA hw 142))⟩)
set_option maxRecDepth 65536 in
set_option maxHeartbeats 40000000 in
theorem rm22_2 {a1 a2 : Addr} {p3 : Int32} {a8 : Addr} {k14 : ClassId} {a15 : Addr} (hw : HW a0 Z) (f4 : Fld Z h0 a1 cC22 "modCount" "I" (VI p3)) (f5 : Exa Z h0 a1 cC21) (f6 : Z.heap.size ≤ a1) (f9 : Fld Z h0 a1 cC21 "elementData" cC1 (VR a8)) (f12 : Fld Z h0 a1 cC21 "size" "I" (VI 1)) (f16 : Arv Z h0 a8 k14 (.object "java/lang/Object") 2 [VR a15, .null] (.null)) (f17 : a8 ≠ a1) (f19 : Z.heap.size ≤ a8) (f20 : Ovr Z k14 cC24) (f21 : Exa Z h0 a2 cC18) (f23 : Exa Z h0 a8 cC1) :
    own_M l Z h0 yM21 c22 2 (some .boolean) 1 0 0 15 #[VR a1, VR a2] (fun v h => v = some (VI 1) ∧ Keep h0 h [a1, a8] ∧ Exa Z h a1 cC21 ∧ Fld Z h a1 cC21 "size" "I" (VI 2) ∧ Fld Z h a1 cC22 "modCount" "I" (VI (p3 + (1 : Int32))) ∧ Fld Z h a1 cC21 "elementData" cC1 (VR a8) ∧ Exa Z h a8 cC1 ∧ Arv Z h a8 k14 (.object "java/lang/Object") 2 [VR a15, VR a2] (.null)) := by
  refine own_ent hw (plainFor_of_name pn15) #[SR a1, SR a2] (fun _ => rfl) fun Q k => ?_
  refine jLa d22_0 rfl (jdU d22_1 rfl (jgV 167 168 f4 d22_2 (jkI 1 d22_5 rfl (jiadd d22_6 (jpVI 167 128 109 168 f4 f5 f6 d22_7 fun h7 W7 F7 => ?_)))))
  have F10 := f5.wr W7
  have F11 := fS f9 W7 (lA hw 131) (lA hw 128)
  have F13 := fS f12 W7 (lA hw 142) (lA hw 128)
  refine jLa d22_10 rfl (jLa d22_11 rfl (jLa d22_12 rfl (jgF 130 F11 d22_13 (jLa d22_16 rfl (jgF 141 F13 d22_17 (jcP 0 169 109 171 170 110 173 (rm23_2 hw (f16.other W7 f17) f19 f20 (f21.wr W7) F10 F13 f17.symm f6 (f23.wr W7) F7 F11) F10 pd13 d22_20 rfl ?_))))))
  rintro _ h25 ⟨rfl, K25, o0_25, o1_25, o2_25, o3_25, o4_25, o5_25⟩
  exact jkI 1 d22_23 rfl (jrZ d22_24 (k _ _ ⟨rfl, (((Keep.refl h0 [a1, a8]).wr W7 (mI 0)).trans K25 (allS (mI 1) (allS (mI 0) all0))), o2_25, o3_25, o4_25, o5_25, o1_25, o0_25⟩))
set_option maxRecDepth 65536 in
set_option maxHeartbeats 40000000 in
theorem rm19_2 {a1 a2 a3 a5 a8 a12 : Addr} {k14 : ClassId} {a15 : Addr} {p22 : Int32} {a47 : Addr} (hw : HW a0 Z) (f4 : Fld Z h0 a2 cC18 "mode" cC3 (VR a3)) (f6 : Sta Z Z.heap cC2 "EXCLUSIVE" cC3 (VR a5)) (f7 : a3 ≠ a5) (f9 : Fld Z h0 a1 cC8 "others" cC11 (VR a8)) (f10 : Exa Z h0 a8 cC21) (f11 : Fld Z h0 a8 cC21 "size" "I" (VI 1)) (f13 : Fld Z h0 a8 cC21 "elementData" cC1 (VR a12)) (f16 : Arv Z h0 a12 k14 (.object "java/lang/Object") 2 [VR a15, .null] (.null)) (f17 : Exa Z h0 a2 cC18) (f18 : a2 ≠ a15) (f20 : Exa Z h0 a1 cC8) (f23 : Fld Z h0 a8 cC22 "modCount" "I" (VI p22)) (f24 : Z.heap.size ≤ a8) (f25 : a12 ≠ a8) (f26 : Z.heap.size ≤ a12) (f27 : Ovr Z k14 cC24) (f28 : Exa Z h0 a12 cC1) (f31 : Fld Z h0 a2 cC18 "granted" "Z" (VI 0)) (f32 : a2 ≠ a12) (f33 : a2 ≠ a8) (f35 : Z.heap.size ≤ a2) (f45 : Fld Z h0 a2 cC18 "row" cC19 (VR a1)) (f48 : Fld Z h0 a2 cC18 "transaction" cC10 (VR a47)) (f50 : Fld Z h0 a2 cC18 "first" "Z" (VI 1)) :
    own_M l Z h0 yM22 c19 3 none 4 0 0 56 #[VR a1, VR a2] (fun v h => v = none ∧ Keep h0 h [a8, a12, a2] ∧ Exa Z h a8 cC21 ∧ Fld Z h a8 cC21 "size" "I" (VI 2) ∧ Fld Z h a8 cC22 "modCount" "I" (VI (p22 + (1 : Int32))) ∧ Fld Z h a8 cC21 "elementData" cC1 (VR a12) ∧ Exa Z h a12 cC1 ∧ Arv Z h a12 k14 (.object "java/lang/Object") 2 [VR a15, VR a2] (.null) ∧ Fld Z h a2 cC18 "mode" cC3 (VR a3) ∧ Exa Z h a2 cC18 ∧ Fld Z h a2 cC18 "granted" "Z" (VI 1) ∧ Fld Z h a2 cC18 "row" cC19 (VR a1) ∧ Fld Z h a2 cC18 "transaction" cC10 (VR a47) ∧ Fld Z h a2 cC18 "first" "Z" (VI 1)) := by
  refine own_ent hw (plainFor_of_name pn2) #[SR a1, SR a2, SU] (fun _ => rfl) fun Q k => ?_
  refine jLa d19_0 rfl (jgR 147 f4 d19_1 (jgS 148 f6 d19_4 (jac 59 d19_7 (own_dn f7) (jLa d19_59 rfl (jgF 68 f9 d19_60 (jzN d19_63 (jLa d19_66 rfl (jgF 68 f9 d19_67 (jLa d19_70 rfl (jcF 0 475 476 477 478 479 480 481 139 110 482 (rm67_1 hw f10 f11 f13 f16 f17 f18) f10 pd14 d19_71 rfl ?_))))))))))
  rintro _ _ ⟨rfl, rfl⟩
  refine jineN d19_76 (by decide) (jLa d19_79 rfl (jcP 0 150 4 152 151 5 153 (rm20_2 hw f9) f20 pd12 d19_80 rfl ?_))
  rintro _ _ ⟨rfl, rfl⟩
  refine jLa d19_83 rfl (jcF 0 159 160 161 162 163 164 165 139 110 166 (rm22_2 hw f23 f10 f24 f13 f11 f16 f25 f26 f27 f17 f28) f10 pd14 d19_84 rfl ?_)
  rintro _ h29 ⟨rfl, K29, o0_29, o1_29, o2_29, o3_29, o4_29, o5_29⟩
  have F30 := f17.keep K29
  refine jpO d19_89 rfl (jLa d19_90 rfl (jkI 1 d19_91 rfl (jpRZ 175 176 76 (f31.keep K29 (ninS f33 (ninS f32 nin0))) F30 f35 d19_92 fun h36 W36 F36 => ?_)))
  exact jrV d19_95 (k _ _ ⟨rfl, (((Keep.refl h0 [a8, a12, a2]).trans K29 (allS (mI 0) (allS (mI 1) all0))).wr W36 (mI 2)), (o0_29.wr W36), (fW o1_29 W36 f33.symm), (fW o2_29 W36 f33.symm), (fW o3_29 W36 f33.symm), (o4_29.wr W36), (o5_29.other W36 f32.symm), (fS (f4.keep K29 (ninS f33 (ninS f32 nin0))) W36 (lB hw 95) (lA hw 176)), (F30.wr W36), F36, (fS (f45.keep K29 (ninS f33 (ninS f32 nin0))) W36 (lB hw 91) (lA hw 176)), (fS (f48.keep K29 (ninS f33 (ninS f32 nin0))) W36 (lB hw 93) (lA hw 176)), (fS (f50.keep K29 (ninS f33 (ninS f32 nin0))) W36 (lB hw 97) (lA hw 176))⟩)
set_option maxRecDepth 65536 in
set_option maxHeartbeats 40000000 in
theorem rm18_3 {a1 : Addr} (hw : HW a0 Z) (f2 : Fld Z h0 a1 cC21 "size" "I" (VI 2)) :
    own_M l Z h0 yM16 c18 1 (some .boolean) 0 0 0 0 #[VR a1] (fun v h => v = some (VI 0) ∧ h0 = h) := by
  refine own_ent hw (plainFor_of_name pn15) #[SR a1] (fun _ => rfl) fun Q k => ?_
  exact jLa d18_0 rfl (jgF 141 f2 d18_1 (jineY 11 d18_4 (by decide) (jkI 0 d18_11 rfl (jrZ d18_12 (k _ _ ⟨rfl, rfl⟩)))))
set_option maxRecDepth 65536 in
set_option maxHeartbeats 40000000 in
theorem rm24_4 {a1 a2 : Addr} (hw : HW a0 Z) (f3 : Fld Z h0 a1 cC8 "others" cC11 (VR a2)) (f4 : Exa Z h0 a2 cC21) (f5 : Fld Z h0 a2 cC21 "size" "I" (VI 2)) :
    own_M l Z h0 yM23 c24 1 none 1 0 0 12 #[VR a1] (fun v h => v = none ∧ h0 = h) := by
  refine own_ent hw (plainFor_of_name pn2) #[SR a1] (fun _ => rfl) fun Q k => ?_
  refine jLa d24_0 rfl (jgF 68 f3 d24_1 (jzN d24_4 (jLa d24_7 rfl (jgF 68 f3 d24_8 (jcF 0 132 133 134 135 136 137 138 139 110 140 (rm18_3 hw f5) f4 pd5 d24_11 rfl ?_)))))
  rintro _ _ ⟨rfl, rfl⟩
  exact jieqY 24 d24_16 (by decide) (jrV d24_24 (k _ _ ⟨rfl, rfl⟩))
set_option maxRecDepth 65536 in
set_option maxHeartbeats 40000000 in
theorem rm9_2 {a1 a2 a3 a14 : Addr} {p19 : Int32} {a24 : Addr} {k27 : ClassId} {a28 a35 a65 a85 : Addr} (hw : HW a0 Z) (f10 : Exa Z h0 a1 cC8) (f12 : Fld Z h0 a1 cC8 "exclusive" cC10 (.null)) (f15 : Fld Z h0 a1 cC8 "others" cC11 (VR a14)) (f17 : Exa Z h0 a14 cC21) (f20 : Fld Z h0 a14 cC22 "modCount" "I" (VI p19)) (f22 : Fld Z h0 a14 cC21 "size" "I" (VI 1)) (f25 : Fld Z h0 a14 cC21 "elementData" cC1 (VR a24)) (f29 : Arv Z h0 a24 k27 (.object "java/lang/Object") 2 [VR a28, .null] (.null)) (f31 : Exa Z h0 a28 cC18) (f33 : Fld Z h0 a28 cC18 "granted" "Z" (VI 1)) (f36 : Fld Z h0 a28 cC18 "transaction" cC10 (VR a35)) (f38 : a35 ≠ a2) (f49 : Sta Z Z.heap cC2 "SHARED" cC3 (VR a3)) (f66 : Sta Z Z.heap cC21 "DEFAULTCAPACITY_EMPTY_ELEMENTDATA" cC1 (VR a65)) (f77 : Fld Z h0 a28 cC18 "mode" cC3 (VR a3)) (f80 : Exa Z h0 a3 cC2) (f86 : Sta Z Z.heap cC2 "EXCLUSIVE" cC3 (VR a85)) (f87 : a3 ≠ a85) (f95 : Z.heap.size ≤ a14) (f96 : a24 ≠ a14) (f97 : Z.heap.size ≤ a24) (f98 : Ovr Z k27 cC24) (f99 : Exa Z h0 a24 cC1) (f107 : a1 ≠ a24) (f108 : a1 ≠ a14) :
    own_M l Z h0 yM24 c9 4 (some (.object cC18)) 6 4 16 79 #[VR a1, VR a2, VR a3] (fun v h => ∃ (b4 : Addr), v = some (VR b4) ∧ Keep h0 h [a14, a24] ∧ h0.size ≤ b4 ∧ Exa Z h a14 cC21 ∧ Fld Z h a14 cC21 "size" "I" (VI 2) ∧ Fld Z h a14 cC22 "modCount" "I" (VI (p19 + (1 : Int32))) ∧ Fld Z h a14 cC21 "elementData" cC1 (VR a24) ∧ Exa Z h a24 cC1 ∧ Arv Z h a24 k27 (.object "java/lang/Object") 2 [VR a28, VR b4] (.null) ∧ Exa Z h b4 cC18 ∧ Fld Z h b4 cC18 "mode" cC3 (VR a3) ∧ Fld Z h b4 cC18 "granted" "Z" (VI 1) ∧ Fld Z h b4 cC18 "row" cC19 (VR a1) ∧ Fld Z h b4 cC18 "transaction" cC10 (VR a2) ∧ Fld Z h b4 cC18 "first" "Z" (VI 1)) := by
  refine own_ent hw (plainFor_of_name pn2) #[SR a1, SR a2, SR a3, SU] (fun _ => rfl) fun Q k => ?_
  refine jnew 75 76 77 d9_0 fun b4 h4 g4 u4 E4 A4 D4 => ?_
  have F11 := f10.ext E4
  have F13 := f12.ext E4
  have F16 := f15.ext E4
  have F18 := f17.ext E4
  have F21 := f20.ext E4
  have F23 := f22.ext E4
  have F26 := f25.ext E4
  have F30 := f29.ext E4
  have F32 := f31.ext E4
  have F34 := f33.ext E4
  have F37 := f36.ext E4
  refine jdU d9_3 rfl (jLa d9_4 rfl (jLa d9_5 rfl (jLa d9_6 rfl (jLa d9_7 rfl (jLa d9_8 rfl (jcP 5 78 4 80 79 5 81 (rm10_2 hw F13 F11 F16 F18 F21 F23 F26 F30 F32 F34 F37 f38) F11 pd7 d9_9 rfl ?_))))))
  rintro _ h39 ⟨rfl, K39⟩
  refine jineN d9_12 (by decide) (jkI 1 d9_15 rfl (jgo 20 d9_16 (jcR 1 86 87 77 88 (rm12_1 hw (A4.keep K39) ((dN D4 (lB hw 91)).keep K39 nin0) u4 ((dN D4 (lB hw 93)).keep K39 nin0) ((dN D4 (lB hw 95)).keep K39 nin0) ((dZ D4 (lB hw 97)).keep K39 nin0) ((dZ D4 (lA hw 176)).keep K39 nin0)) pd8 d9_20 rfl ?_)))
  rintro _ h46 ⟨rfl, K46, o0_46, o1_46, o2_46, o3_46, o4_46, o5_46⟩
  have v47 := own_lo f10.lt g4
  have F48 := (F13.keep K39 nin0).keep K46 (ninS v47 nin0)
  have F50 := (F11.keep K39).keep K46
  have F51 := (F16.keep K39 nin0).keep K46 (ninS v47 nin0)
  have F52 := (F18.keep K39).keep K46
  have v53 := own_lo f17.lt g4
  have F54 := (F21.keep K39 nin0).keep K46 (ninS v53 nin0)
  have F55 := (F23.keep K39 nin0).keep K46 (ninS v53 nin0)
  have F56 := (F26.keep K39 nin0).keep K46 (ninS v53 nin0)
  have v57 := own_lo f29.lt g4
  have F58 := (F30.keep K39 nin0).keep K46 (ninS v57 nin0)
  have F59 := (F32.keep K39).keep K46
  have v60 := own_lo f31.lt g4
  have F61 := (F34.keep K39 nin0).keep K46 (ninS v60 nin0)
  have F62 := (F37.keep K39 nin0).keep K46 (ninS v60 nin0)
  refine jta d9_23 #[SR a1, SR a2, SR a3, SR b4] rfl (jLa d9_24 rfl (jgF 66 F48 d9_25 (jLa d9_28 rfl (jac 32 d9_29 (decide_eq_false nofun) (jLa d9_32 rfl (jgS 98 f49 d9_33 (jac 39 d9_36 (decide_eq_true rfl) (jLa d9_39 rfl (jLa d9_40 rfl (jcP 0 82 4 84 83 5 85 (rm11_2 hw F51 F52 F54 F55 F56 F58 F59 F61 F62 f38) F50 pd6 d9_41 rfl ?_))))))))))
  rintro _ h63 ⟨rfl, K63⟩
  have F64 := F50.keep K63
  have F68 := F51.keep K63 nin0
  have F69 := F52.keep K63
  have F70 := F55.keep K63 nin0
  have F71 := F56.keep K63 nin0
  have F72 := F58.keep K63 nin0
  have F75 := o2_46.keep K63 nin0
  have F79 := o3_46.keep K63 nin0
  refine jzY 55 d9_44 (jLa d9_55 rfl (jLa d9_56 rfl (jcP 0 99 4 101 100 5 102 (rm13_2 hw F64 f66 (F48.keep K63 nin0) F68 F69 F70 F71 F72 (F59.keep K63) v60 (F62.keep K63 nin0) F75 f38 (F61.keep K63 nin0) ((((f77.ext E4).keep K39 nin0).keep K46 (ninS v60 nin0)).keep K63 nin0) F79 ((((f80.ext E4).keep K39).keep K46).keep K63) f49) F64 pd10 d9_57 rfl ?_)))
  rintro _ h82 ⟨rfl, K82⟩
  have F83 := F64.keep K82
  have F88 := F68.keep K82 nin0
  refine jieqN d9_60 (by decide) (jLa d9_63 rfl (jLa d9_64 rfl (jcP 0 143 4 145 144 5 146 (rm19_2 hw (F79.keep K82 nin0) f86 f87 F88 (F69.keep K82) (F70.keep K82 nin0) (F71.keep K82 nin0) (F72.keep K82 nin0) ((o0_46.keep K63).keep K82) v60.symm F83 ((F54.keep K63 nin0).keep K82 nin0) f95 f96 f97 f98 (((((f99.ext E4).keep K39).keep K46).keep K63).keep K82) ((o5_46.keep K63 nin0).keep K82 nin0) v57.symm v53.symm u4 ((o1_46.keep K63 nin0).keep K82 nin0) (F75.keep K82 nin0) ((o4_46.keep K63 nin0).keep K82 nin0)) F83 pd15 d9_65 rfl ?_)))
  rintro _ h105 ⟨rfl, K105, o0_105, o1_105, o2_105, o3_105, o4_105, o5_105, o6_105, o7_105, o8_105, o9_105, o10_105, o11_105⟩
  refine jgo 82 d9_68 (jLa d9_82 rfl (jcP 0 177 4 179 178 5 180 (rm24_4 hw (F88.keep K105 (ninS f108 (ninS f107 (ninS v47 nin0)))) o0_105 o1_105) (F83.keep K105) pd0 d9_83 rfl ?_))
  rintro _ _ ⟨rfl, rfl⟩
  exact jLa d9_86 rfl (jrA d9_87 (k _ _ ⟨b4, rfl, (((((((Keep.refl h0 [a14, a24]).ext E4).trans K39 all0).trans K46 (allS (Or.inr g4) all0)).trans K63 all0).trans K82 all0).trans K105 (allS (mI 0) (allS (mI 1) (allS (Or.inr g4) all0)))), g4, o0_105, o1_105, o2_105, o3_105, o4_105, o5_105, o7_105, o6_105, o8_105, o9_105, o10_105, o11_105⟩))
set_option maxRecDepth 65536 in
set_option maxHeartbeats 40000000 in
theorem rm28_3 {a1 a3 : Addr} (hw : HW a0 Z) (f2 : Fld Z h0 a1 cC25 "cursor" "I" (VI 0)) (f4 : Fld Z h0 a1 cC25 "this$0" cC26 (VR a3)) (f5 : Fld Z h0 a3 cC21 "size" "I" (VI 2)) :
    own_M l Z h0 yM27 c28 1 (some .boolean) 0 0 0 0 #[VR a1] (fun v h => v = some (VI 1) ∧ h0 = h) := by
  refine own_ent hw (plainFor_of_name pn27) #[SR a1] (fun _ => rfl) fun Q k => ?_
  exact jLa d28_0 rfl (jgF 218 f2 d28_1 (jLa d28_4 rfl (jgF 201 f4 d28_5 (jgN 220 f5 d28_8 (jceqN d28_11 (by decide) (jkI 1 d28_14 rfl (jgo 19 d28_15 (jrZ d28_19 (k _ _ ⟨rfl, rfl⟩)))))))))
set_option maxRecDepth 65536 in
set_option maxHeartbeats 40000000 in
theorem rm29_2 {a1 a3 : Addr} {p5 : Int32} {a11 : Addr} {k13 : ClassId} {a14 a15 : Addr} (hw : HW a0 Z) (f2 : Exa Z h0 a1 cC25) (f4 : Fld Z h0 a1 cC25 "this$0" cC26 (VR a3)) (f6 : Fld Z h0 a3 cC22 "modCount" "I" (VI p5)) (f7 : Fld Z h0 a1 cC25 "expectedModCount" "I" (VI p5)) (f9 : Fld Z h0 a1 cC25 "cursor" "I" (VI 0)) (f10 : Fld Z h0 a3 cC21 "size" "I" (VI 2)) (f12 : Fld Z h0 a3 cC21 "elementData" cC1 (VR a11)) (f16 : Arv Z h0 a11 k13 (.object "java/lang/Object") 2 [VR a14, VR a15] (.null)) (f17 : Z.heap.size ≤ a1) (f20 : Fld Z h0 a1 cC25 "lastRet" "I" (VI (-1))) (f23 : a11 ≠ a1) :
    own_M l Z h0 yM29 c29 3 (some (.object cC24)) 1 0 0 12 #[VR a1] (fun v h => v = some (VR a14) ∧ Keep h0 h [a1] ∧ Exa Z h a1 cC25 ∧ Fld Z h a1 cC25 "this$0" cC26 (VR a3) ∧ Fld Z h a1 cC25 "expectedModCount" "I" (VI p5) ∧ Fld Z h a1 cC25 "cursor" "I" (VI 1) ∧ Fld Z h a1 cC25 "lastRet" "I" (VI 0)) := by
  refine own_ent hw (plainFor_of_name pn27) #[SR a1, SU, SU] (fun _ => rfl) fun Q k => ?_
  refine jLa d29_0 rfl (jcV 0 229 230 232 231 196 233 (nfS hw 232) (rm30_1 hw f4 f6 f7) f2 pd0 d29_1 rfl ?_)
  rintro _ _ ⟨rfl, rfl⟩
  refine jLa d29_4 rfl (jgF 218 f9 d29_5 (jti d29_8 #[SR a1, SI 0, SU] rfl (jLi d29_9 rfl (jLa d29_10 rfl (jgF 201 f4 d29_11 (jgN 220 f10 d29_14 (jcltY 28 d29_17 (by decide) (jLa d29_28 rfl (jgF 201 f4 d29_29 (jgF 234 f12 d29_32 (jta d29_35 #[SR a1, SI 0, SR a11] rfl (jLi d29_36 rfl (jLa d29_37 rfl (jal f16 d29_38 (jcltY 50 d29_39 (by decide) ?_)))))))))))))))
  refine jLa d29_50 rfl (jLi d29_51 rfl (jkI 1 d29_52 rfl (jiadd d29_53 (jpFI 218 219 195 f9 f2 f17 d29_54 fun h18 W18 F18 => ?_))))
  have F19 := f2.wr W18
  refine jLa d29_57 rfl (jLa d29_58 rfl (jLi d29_59 rfl (jdX d29_60 rfl rfl (jpFI 204 205 195 (fS f20 W18 (lA hw 205) (lA hw 219)) F19 f17 d29_61 fun h22 W22 F22 => ?_))))
  exact jaa ((f16.other W18 f23).other W22 f23) (by decide) (VR a14) rfl d29_64 (jrA d29_65 (k _ _ ⟨rfl, (((Keep.refl h0 [a1]).wr W18 (mI 0)).wr W22 (mI 0)), (F19.wr W22), (fS (fS f4 W18 (lB hw 202) (lA hw 219)) W22 (lB hw 202) (lA hw 205)), (fS (fS f7 W18 (lA hw 208) (lA hw 219)) W22 (lA hw 208) (lA hw 205)), (fS F18 W22 (lA hw 219) (lA hw 205)), F22⟩))
set_option maxRecDepth 65536 in
set_option maxHeartbeats 40000000 in
theorem rm28_4 {a1 a3 : Addr} (hw : HW a0 Z) (f2 : Fld Z h0 a1 cC25 "cursor" "I" (VI 1)) (f4 : Fld Z h0 a1 cC25 "this$0" cC26 (VR a3)) (f5 : Fld Z h0 a3 cC21 "size" "I" (VI 2)) :
    own_M l Z h0 yM27 c28 1 (some .boolean) 0 0 0 0 #[VR a1] (fun v h => v = some (VI 1) ∧ h0 = h) := by
  refine own_ent hw (plainFor_of_name pn27) #[SR a1] (fun _ => rfl) fun Q k => ?_
  exact jLa d28_0 rfl (jgF 218 f2 d28_1 (jLa d28_4 rfl (jgF 201 f4 d28_5 (jgN 220 f5 d28_8 (jceqN d28_11 (by decide) (jkI 1 d28_14 rfl (jgo 19 d28_15 (jrZ d28_19 (k _ _ ⟨rfl, rfl⟩)))))))))
set_option maxRecDepth 65536 in
set_option maxHeartbeats 40000000 in
theorem rm29_3 {a1 a3 : Addr} {p5 : Int32} {a11 : Addr} {k13 : ClassId} {a14 a15 : Addr} (hw : HW a0 Z) (f2 : Exa Z h0 a1 cC25) (f4 : Fld Z h0 a1 cC25 "this$0" cC26 (VR a3)) (f6 : Fld Z h0 a3 cC22 "modCount" "I" (VI p5)) (f7 : Fld Z h0 a1 cC25 "expectedModCount" "I" (VI p5)) (f9 : Fld Z h0 a1 cC25 "cursor" "I" (VI 1)) (f10 : Fld Z h0 a3 cC21 "size" "I" (VI 2)) (f12 : Fld Z h0 a3 cC21 "elementData" cC1 (VR a11)) (f16 : Arv Z h0 a11 k13 (.object "java/lang/Object") 2 [VR a14, VR a15] (.null)) (f17 : Z.heap.size ≤ a1) (f20 : Fld Z h0 a1 cC25 "lastRet" "I" (VI 0)) (f23 : a11 ≠ a1) :
    own_M l Z h0 yM29 c29 3 (some (.object cC24)) 1 0 0 12 #[VR a1] (fun v h => v = some (VR a15) ∧ Keep h0 h [a1] ∧ Exa Z h a1 cC25 ∧ Fld Z h a1 cC25 "this$0" cC26 (VR a3) ∧ Fld Z h a1 cC25 "expectedModCount" "I" (VI p5) ∧ Fld Z h a1 cC25 "cursor" "I" (VI 2) ∧ Fld Z h a1 cC25 "lastRet" "I" (VI 1)) := by
  refine own_ent hw (plainFor_of_name pn27) #[SR a1, SU, SU] (fun _ => rfl) fun Q k => ?_
  refine jLa d29_0 rfl (jcV 0 229 230 232 231 196 233 (nfS hw 232) (rm30_1 hw f4 f6 f7) f2 pd0 d29_1 rfl ?_)
  rintro _ _ ⟨rfl, rfl⟩
  refine jLa d29_4 rfl (jgF 218 f9 d29_5 (jti d29_8 #[SR a1, SI 1, SU] rfl (jLi d29_9 rfl (jLa d29_10 rfl (jgF 201 f4 d29_11 (jgN 220 f10 d29_14 (jcltY 28 d29_17 (by decide) (jLa d29_28 rfl (jgF 201 f4 d29_29 (jgF 234 f12 d29_32 (jta d29_35 #[SR a1, SI 1, SR a11] rfl (jLi d29_36 rfl (jLa d29_37 rfl (jal f16 d29_38 (jcltY 50 d29_39 (by decide) ?_)))))))))))))))
  refine jLa d29_50 rfl (jLi d29_51 rfl (jkI 1 d29_52 rfl (jiadd d29_53 (jpFI 218 219 195 f9 f2 f17 d29_54 fun h18 W18 F18 => ?_))))
  have F19 := f2.wr W18
  refine jLa d29_57 rfl (jLa d29_58 rfl (jLi d29_59 rfl (jdX d29_60 rfl rfl (jpFI 204 205 195 (fS f20 W18 (lA hw 205) (lA hw 219)) F19 f17 d29_61 fun h22 W22 F22 => ?_))))
  exact jaa ((f16.other W18 f23).other W22 f23) (by decide) (VR a15) rfl d29_64 (jrA d29_65 (k _ _ ⟨rfl, (((Keep.refl h0 [a1]).wr W18 (mI 0)).wr W22 (mI 0)), (F19.wr W22), (fS (fS f4 W18 (lB hw 202) (lA hw 219)) W22 (lB hw 202) (lA hw 205)), (fS (fS f7 W18 (lA hw 208) (lA hw 219)) W22 (lA hw 208) (lA hw 205)), (fS F18 W22 (lA hw 219) (lA hw 205)), F22⟩))
set_option maxRecDepth 65536 in
set_option maxHeartbeats 40000000 in
theorem rm28_5 {a1 a3 : Addr} (hw : HW a0 Z) (f2 : Fld Z h0 a1 cC25 "cursor" "I" (VI 2)) (f4 : Fld Z h0 a1 cC25 "this$0" cC26 (VR a3)) (f5 : Fld Z h0 a3 cC21 "size" "I" (VI 2)) :
    own_M l Z h0 yM27 c28 1 (some .boolean) 0 0 0 0 #[VR a1] (fun v h => v = some (VI 0) ∧ h0 = h) := by
  refine own_ent hw (plainFor_of_name pn27) #[SR a1] (fun _ => rfl) fun Q k => ?_
  exact jLa d28_0 rfl (jgF 218 f2 d28_1 (jLa d28_4 rfl (jgF 201 f4 d28_5 (jgN 220 f5 d28_8 (jceqY 18 d28_11 (by decide) (jkI 0 d28_18 rfl (jrZ d28_19 (k _ _ ⟨rfl, rfl⟩))))))))
set_option maxRecDepth 65536 in
set_option maxHeartbeats 40000000 in
theorem rm11_4 {a1 a2 a3 : Addr} {p6 : Int32} {a13 : Addr} {k16 : ClassId} {a17 a18 a29 a47 : Addr} (hw : HW a0 Z) (f4 : Fld Z h0 a1 cC8 "others" cC11 (VR a3)) (f5 : Exa Z h0 a3 cC21) (f7 : Fld Z h0 a3 cC22 "modCount" "I" (VI p6)) (f9 : Fld Z h0 a3 cC21 "size" "I" (VI 2)) (f14 : Fld Z h0 a3 cC21 "elementData" cC1 (VR a13)) (f19 : Arv Z h0 a13 k16 (.object "java/lang/Object") 2 [VR a17, VR a18] (.null)) (f24 : Exa Z h0 a17 cC18) (f26 : Fld Z h0 a17 cC18 "granted" "Z" (VI 1)) (f30 : Fld Z h0 a17 cC18 "transaction" cC10 (VR a29)) (f32 : a29 ≠ a2) (f40 : Exa Z h0 a18 cC18) (f42 : Fld Z h0 a18 cC18 "granted" "Z" (VI 1)) (f45 : Fld Z h0 a18 cC18 "transaction" cC10 (VR a2)) (f48 : Fld Z h0 a18 cC18 "mode" cC3 (VR a47)) (f50 : Sta Z Z.heap cC2 "SHARED" cC3 (VR a47)) :
    own_M l Z h0 yM9 c11 5 (some (.object cC18)) 3 1 4 38 #[VR a1, VR a2] (fun v h => v = some (VR a18) ∧ Keep h0 h []) := by
  refine own_ent hw (plainFor_of_name pn2) #[SR a1, SR a2, SU, SU, SU] (fun _ => rfl) fun Q k => ?_
  refine own_z fun Z0 => ?_
  refine jkN d11_0 (jnta d11_1 #[SR a1, SR a2, SN, SU, SU] rfl (jLa d11_2 rfl (jgF 68 f4 d11_3 (jzN d11_6 (jLa d11_9 rfl (jgF 68 f4 d11_10 (jcF 0 186 187 188 189 190 191 192 139 110 193 (rm26_1 hw f7) f5 pd18 d11_13 rfl ?_)))))))
  rintro _ h8 ⟨b2_8, rfl, K8, lob2_8, o0_8, o1_8, o2_8, o3_8, o4_8⟩
  have F10 := f9.keep K8 nin0
  refine jta d11_18 #[SR a1, SR a2, SN, SR b2_8, SU] rfl (jLa d11_19 rfl (jcF 0 209 210 211 212 213 214 215 216 196 217 (rm28_3 hw o4_8 o1_8 F10) o0_8 pd5 d11_20 rfl ?_))
  rintro _ _ ⟨rfl, rfl⟩
  have F12 := f7.keep K8 nin0
  have F15 := f14.keep K8 nin0
  have F20 := f19.keep K8 nin0
  have u21 := Nat.le_trans Z0 lob2_8
  have v22 := own_lo f19.lt lob2_8
  refine jieqN d11_25 (by decide) (jLa d11_28 rfl (jcF 0 221 222 223 224 225 226 227 216 196 228 (rm29_2 hw o0_8 o1_8 F12 o3_8 o4_8 F10 F15 F20 u21 o2_8 v22) o0_8 pd19 d11_29 rfl ?_))
  rintro _ h23 ⟨rfl, K23, o0_23, o1_23, o2_23, o3_23, o4_23⟩
  have v27 := own_lo f24.lt lob2_8
  have v33 := own_lo f5.lt lob2_8
  have F34 := F10.keep K23 (ninS v33 nin0)
  refine jcY 75 (Ins.self ((f24.keep K8).keep K23)) d11_34 (jtA d11_37 #[SR a1, SR a2, SN, SR b2_8, SR a17] rfl (jLA d11_39 rfl (jgR 175 ((f26.keep K8 nin0).keep K23 (ninS v27 nin0)) d11_41 (jieqN d11_44 (by decide) (jLA d11_47 rfl (jgR 236 ((f30.keep K8 nin0).keep K23 (ninS v27 nin0)) d11_49 (jLa d11_52 rfl (jac 70 d11_53 (own_dn f32) (jgo 19 d11_70 (jLa d11_19 rfl (jcF 0 209 210 211 212 213 214 215 216 196 217 (rm28_4 hw o3_23 o1_23 F34) o0_23 pd5 d11_20 rfl ?_)))))))))))
  rintro _ _ ⟨rfl, rfl⟩
  refine jieqN d11_25 (by decide) (jLa d11_28 rfl (jcF 0 221 222 223 224 225 226 227 216 196 228 (rm29_3 hw o0_23 o1_23 (F12.keep K23 (ninS v33 nin0)) o2_23 o3_23 F34 (F15.keep K23 (ninS v33 nin0)) (F20.keep K23 (ninS v22 nin0)) u21 o4_23 v22) o0_23 pd19 d11_29 rfl ?_))
  rintro _ h39 ⟨rfl, K39, o0_39, o1_39, o2_39, o3_39, o4_39⟩
  have v43 := own_lo f40.lt lob2_8
  refine jcY 75 (Ins.self (((f40.keep K8).keep K23).keep K39)) d11_34 (jtA d11_37 #[SR a1, SR a2, SN, SR b2_8, SR a18] rfl (jLA d11_39 rfl (jgR 175 (((f42.keep K8 nin0).keep K23 (ninS v43 nin0)).keep K39 (ninS v43 nin0)) d11_41 (jieqN d11_44 (by decide) (jLA d11_47 rfl (jgR 236 (((f45.keep K8 nin0).keep K23 (ninS v43 nin0)).keep K39 (ninS v43 nin0)) d11_49 (jLa d11_52 rfl (jac 56 d11_53 (decide_eq_true rfl) (jLA d11_56 rfl (jgR 147 (((f48.keep K8 nin0).keep K23 (ninS v43 nin0)).keep K39 (ninS v43 nin0)) d11_58 (jgS 98 f50 d11_61 (jac 67 d11_64 (decide_eq_true rfl) (jLA d11_67 rfl (jta d11_69 #[SR a1, SR a2, SR a18, SR b2_8, SR a18] rfl (jgo 19 d11_70 ?_)))))))))))))))
  refine jLa d11_19 rfl (jcF 0 209 210 211 212 213 214 215 216 196 217 (rm28_5 hw o3_39 o1_39 (F34.keep K39 (ninS v33 nin0))) o0_39 pd5 d11_20 rfl ?_)
  rintro _ _ ⟨rfl, rfl⟩
  exact jieqY 73 d11_25 (by decide) (jLa d11_73 rfl (jrA d11_74 (k _ _ ⟨rfl, ((((Keep.refl h0 []).trans K8 all0).trans K23 (allS (Or.inr lob2_8) all0)).trans K39 (allS (Or.inr lob2_8) all0))⟩)))
set_option maxRecDepth 65536 in
set_option maxHeartbeats 40000000 in
theorem rm51_2 {a1 a2 : Addr} {p3 p4 : Int32} {k14 : ClassId} {a15 a16 : Addr} (hw : HW a0 Z) (f5 : Fld Z h0 a1 cC22 "modCount" "I" (VI p4)) (f6 : Exa Z h0 a1 cC21) (f7 : Z.heap.size ≤ a1) (f9 : Fld Z h0 a1 cC21 "size" "I" (VI 2)) (f12 : ¬ (p3 < (1 : Int32))) (f17 : Arv Z h0 a2 k14 (.object "java/lang/Object") 2 [VR a15, VR a16] (.null)) (f18 : a2 ≠ a1) (f20 : Z.heap.size ≤ a2) (f25 : Fld Z h0 a1 cC21 "elementData" cC1 (VR a2)) (f27 : Exa Z h0 a2 cC1) :
    own_M l Z h0 yM50 c51 4 none 0 0 0 0 #[VR a1, VR a2, VI p3] (fun v h => v = none ∧ Keep h0 h [a1, a2] ∧ Fld Z h a1 cC22 "modCount" "I" (VI (p4 + (1 : Int32))) ∧ Exa Z h a1 cC21 ∧ Fld Z h a1 cC21 "size" "I" (VI 1) ∧ Fld Z h a1 cC21 "elementData" cC1 (VR a2) ∧ Arv Z h a2 k14 (.object "java/lang/Object") 2 [VR a15, .null] (.null) ∧ Exa Z h a2 cC1) := by
  refine own_ent hw (plainFor_of_name pn15) #[SR a1, SR a2, SI p3, SU] (fun _ => rfl) fun Q k => ?_
  refine jLa d51_0 rfl (jdU d51_1 rfl (jgV 167 168 f5 d51_2 (jkI 1 d51_5 rfl (jiadd d51_6 (jpVI 167 128 109 168 f5 f6 f7 d51_7 fun h8 W8 F8 => ?_)))))
  have F10 := f6.wr W8
  have F11 := fS f9 W8 (lA hw 142) (lA hw 128)
  refine jLa d51_10 rfl (jgF 141 F11 d51_11 (jkI 1 d51_14 rfl (jisub d51_15 (jdU d51_16 rfl (jti d51_17 #[SR a1, SR a2, SI p3, SI 1] rfl (jLi d51_18 rfl (jcleY 34 d51_19 f12 (jLa d51_34 rfl (jLa d51_35 rfl (jLi d51_36 rfl (jdX d51_37 rfl rfl (jpFI 141 142 109 F11 F10 f7 d51_38 fun h13 W13 F13 => ?_))))))))))))
  refine jkN d51_41 (jsN ((f17.other W8 f18).other W13 f18) (by decide) f20 1 [VR a15, .null] d51_42 rfl rfl fun h21 W21 V21 => ?_)
  exact jrV d51_43 (k _ _ ⟨rfl, ((((Keep.refl h0 [a1, a2]).wr W8 (mI 0)).wr W13 (mI 0)).wr W21 (mI 1)), (fW (fS F8 W13 (lA hw 128) (lA hw 142)) W21 f18.symm), ((F10.wr W13).wr W21), (fW F13 W21 f18.symm), (fW (fS (fS f25 W8 (lA hw 131) (lA hw 128)) W13 (lA hw 131) (lA hw 142)) W21 f18.symm), V21, (((f27.wr W8).wr W13).wr W21)⟩)
set_option maxRecDepth 65536 in
set_option maxHeartbeats 40000000 in
theorem rm49_2 {a1 a2 a3 : Addr} {k6 : ClassId} {a7 : Addr} {p12 : Int32} (hw : HW a0 Z) (f4 : Fld Z h0 a1 cC21 "elementData" cC1 (VR a3)) (f5 : Fld Z h0 a1 cC21 "size" "I" (VI 2)) (f8 : Arv Z h0 a3 k6 (.object "java/lang/Object") 2 [VR a7, VR a2] (.null)) (f9 : Exa Z h0 a2 cC18) (f10 : a2 ≠ a7) (f11 : Exa Z h0 a1 cC21) (f13 : Fld Z h0 a1 cC22 "modCount" "I" (VI p12)) (f14 : Z.heap.size ≤ a1) (f15 : a3 ≠ a1) (f16 : Z.heap.size ≤ a3) (f17 : Exa Z h0 a3 cC1) :
    own_M l Z h0 yM51 c49 5 (some .boolean) 1 0 0 15 #[VR a1, VR a2] (fun v h => v = some (VI 1) ∧ Keep h0 h [a1, a3] ∧ Exa Z h a1 cC21 ∧ Fld Z h a1 cC22 "modCount" "I" (VI (p12 + (1 : Int32))) ∧ Fld Z h a1 cC21 "size" "I" (VI 1) ∧ Fld Z h a1 cC21 "elementData" cC1 (VR a3) ∧ Exa Z h a3 cC1 ∧ Arv Z h a3 k6 (.object "java/lang/Object") 2 [VR a7, .null] (.null)) := by
  refine own_ent hw (plainFor_of_name pn15) #[SR a1, SR a2, SU, SU, SU] (fun _ => rfl) fun Q k => ?_
  refine jLa d49_0 rfl (jgF 130 f4 d49_1 (jta d49_4 #[SR a1, SR a2, SR a3, SU, SU] rfl (jLa d49_5 rfl (jgF 141 f5 d49_6 (jti d49_9 #[SR a1, SR a2, SR a3, SI 2, SU] rfl (jkI 0 d49_10 rfl (jtI d49_11 #[SR a1, SR a2, SR a3, SI 2, SI 0] rfl (jLa d49_13 rfl (jyY 39 d49_14 (jLI d49_39 rfl (jLi d49_41 rfl (jcgeN d49_42 (by decide) (jLa d49_45 rfl (jLa d49_46 rfl (jLI d49_47 rfl ?_)))))))))))))))
  refine jaa f8 (by decide) (VR a7) rfl d49_49 (jeF 0 379 380 382 381 383 f10 (nfT hw 253) f9 d49_50 (jieqY 59 d49_53 (by decide) (jiC d49_59 #[SR a1, SR a2, SR a3, SI 2, SI 1] rfl rfl (jgo 39 d49_62 (jLI d49_39 rfl (jLi d49_41 rfl (jcgeN d49_42 (by decide) (jLa d49_45 rfl (jLa d49_46 rfl (jLI d49_47 rfl (jaa f8 (by decide) (VR a2) rfl d49_49 (jeT 0 379 380 382 381 383 (nfT hw 253) f9 d49_50 (jieqN d49_53 (by decide) (jgo 67 d49_56 (jLa d49_67 rfl ?_)))))))))))))))
  refine jLa d49_68 rfl (jLI d49_69 rfl (jcP 0 384 109 386 385 110 388 (rm51_2 hw f13 f11 f14 f5 (by decide) f8 f15 f16 f4 f17) f11 pd30 d49_71 rfl ?_))
  rintro _ h18 ⟨rfl, K18, o0_18, o1_18, o2_18, o3_18, o4_18, o5_18⟩
  exact jkI 1 d49_74 rfl (jrZ d49_75 (k _ _ ⟨rfl, ((Keep.refl h0 [a1, a3]).trans K18 (allS (mI 0) (allS (mI 1) all0))), o1_18, o0_18, o2_18, o3_18, o5_18, o4_18⟩))
set_option maxRecDepth 65536 in
set_option maxHeartbeats 40000000 in
theorem rm25_4 {a1 a2 a5 : Addr} {p8 : Int32} {a11 : Addr} {k13 : ClassId} {a14 a15 a19 a25 a47 a50 : Addr} (hw : HW a0 Z) (f3 : Fld Z h0 a1 cC8 "exclusive" cC10 (.null)) (f4 : Exa Z h0 a1 cC8) (f6 : Fld Z h0 a1 cC8 "others" cC11 (VR a5)) (f7 : Exa Z h0 a5 cC21) (f9 : Fld Z h0 a5 cC22 "modCount" "I" (VI p8)) (f10 : Fld Z h0 a5 cC21 "size" "I" (VI 2)) (f12 : Fld Z h0 a5 cC21 "elementData" cC1 (VR a11)) (f16 : Arv Z h0 a11 k13 (.object "java/lang/Object") 2 [VR a14, VR a15] (.null)) (f17 : Exa Z h0 a14 cC18) (f18 : Fld Z h0 a14 cC18 "granted" "Z" (VI 1)) (f20 : Fld Z h0 a14 cC18 "transaction" cC10 (VR a19)) (f21 : a19 ≠ a2) (f22 : Exa Z h0 a15 cC18) (f23 : Fld Z h0 a15 cC18 "granted" "Z" (VI 1)) (f24 : Fld Z h0 a15 cC18 "transaction" cC10 (VR a2)) (f26 : Fld Z h0 a15 cC18 "mode" cC3 (VR a25)) (f27 : Sta Z Z.heap cC2 "SHARED" cC3 (VR a25)) (f35 : a15 ≠ a14) (f37 : Z.heap.size ≤ a5) (f38 : a11 ≠ a5) (f39 : Z.heap.size ≤ a11) (f40 : Exa Z h0 a11 cC1) (f44 : a1 ≠ a11) (f45 : a1 ≠ a5) (f48 : own_Mir Z cC1 a47) (f51 : Sta Z Z.heap cC34 "EMPTY" cC9 (VR a50)) (f52 : a14 ≠ a11) (f53 : a14 ≠ a5) :
    own_M l Z h0 yM49 c25 3 (some .boolean) 9 4 11 115 #[VR a1, VR a2] (fun v h => v = some (VI 0) ∧ Keep h0 h [a5, a11] ∧ Exa Z h a5 cC21 ∧ Fld Z h a5 cC22 "modCount" "I" (VI (p8 + (1 : Int32))) ∧ Fld Z h a5 cC21 "size" "I" (VI 1) ∧ Fld Z h a5 cC21 "elementData" cC1 (VR a11) ∧ Exa Z h a11 cC1 ∧ Arv Z h a11 k13 (.object "java/lang/Object") 2 [VR a14, .null] (.null)) := by
  refine own_ent hw (plainFor_of_name pn2) #[SR a1, SR a2, SU] (fun _ => rfl) fun Q k => ?_
  refine jLa d25_0 rfl (jgF 66 f3 d25_1 (jLa d25_4 rfl (jac 18 d25_5 (decide_eq_false nofun) (jLa d25_18 rfl (jLa d25_19 rfl (jcP 0 82 4 84 83 5 85 (rm11_4 hw f6 f7 f9 f10 f12 f16 f17 f18 f20 f21 f22 f23 f24 f26 f27) f4 pd6 d25_20 rfl ?_))))))
  rintro _ h28 ⟨rfl, K28⟩
  have F29 := f6.keep K28 nin0
  have F30 := f7.keep K28
  refine jta d25_23 #[SR a1, SR a2, SR a15] rfl (jLa d25_24 rfl (jzN d25_25 (jLa d25_28 rfl (jgF 68 F29 d25_29 (jLa d25_32 rfl (jcF 0 371 372 373 374 375 376 377 139 110 378 (rm49_2 hw (f12.keep K28 nin0) (f10.keep K28 nin0) (f16.keep K28 nin0) (f22.keep K28) f35 F30 (f9.keep K28 nin0) f37 f38 f39 (f40.keep K28)) F30 pd14 d25_33 rfl ?_))))))
  rintro _ h42 ⟨rfl, K42, o0_42, o1_42, o2_42, o3_42, o4_42, o5_42⟩
  have F43 := (f4.keep K28).keep K42
  refine jpO d25_38 rfl (jLa d25_39 rfl (jcP 0 237 4 239 238 5 240 (rm31_1 hw (F29.keep K42 (ninS f45 (ninS f44 nin0))) o0_42 o2_42 o3_42 o4_42 f48 o5_42 ((f17.keep K28).keep K42) f51 ((f18.keep K28 nin0).keep K42 (ninS f53 (ninS f52 nin0))) F43) F43 pd5 d25_40 rfl ?_))
  rintro _ h55 ⟨rfl, K55⟩
  exact jrZ d25_43 (k _ _ ⟨rfl, ((((Keep.refl h0 [a5, a11]).trans K28 all0).trans K42 (allS (mI 0) (allS (mI 1) all0))).trans K55 all0), (o0_42.keep K55), (o1_42.keep K55 nin0), (o2_42.keep K55 nin0), (o3_42.keep K55 nin0), (o4_42.keep K55), (o5_42.keep K55 nin0)⟩)
set_option maxRecDepth 65536 in
set_option maxHeartbeats 40000000 in
theorem tl26 {D0_ D1_ D2_ D3_ D4_ D5_ D6_ : Slot} {G7_ : Int32} {D8_ : Slot} {A10_ A11_ A12_ : Addr} {D14_ D16_ : Slot} {A15_ : Addr} {P16_ : Int32} {A17_ : Addr} {KK18_ : ClassId} {A19_ A20_ A21_ A22_ : Addr} {KK23_ : ClassId} {A24_ : Addr} (hw : HW a0 Z) (fm1_ : Exa Z h0 A10_ cC8) (fm2_ : Fld Z h0 A10_ cC8 "exclusive" cC10 (.null)) (fm3_ : Fld Z h0 A10_ cC8 "others" cC11 (VR A15_)) (fm4_ : G7_ = (0 : Int32)) (fm5_ : Exa Z h0 A15_ cC21) (fm6_ : Fld Z h0 A15_ cC22 "modCount" "I" (VI P16_)) (fm7_ : Fld Z h0 A15_ cC21 "size" "I" (VI 1)) (fm8_ : Fld Z h0 A15_ cC21 "elementData" cC1 (VR A17_)) (fm9_ : Arv Z h0 A17_ KK18_ (.object "java/lang/Object") 2 [VR A19_, .null] (.null)) (fm10_ : Exa Z h0 A19_ cC18) (fm11_ : Fld Z h0 A19_ cC18 "granted" "Z" (VI 1)) (fm12_ : Fld Z h0 A19_ cC18 "transaction" cC10 (VR A11_)) (fm13_ : Fld Z h0 A19_ cC18 "mode" cC3 (VR A20_)) (fm14_ : Sta Z Z.heap cC2 "SHARED" cC3 (VR A20_)) (fm15_ : A17_ ≠ A15_) (fm16_ : Exa Z h0 A17_ cC1) (fm17_ : A10_ ≠ A17_) (fm18_ : A10_ ≠ A15_) (fm19_ : Sta Z Z.heap cC34 "EMPTY_LIST" cC36 (VR A21_)) (fm20_ : Exa Z h0 A21_ cC0) (fm21_ : Fld Z h0 A21_ cC0 "elements" cC1 (VR A22_)) (fm22_ : A21_ ≠ A17_) (fm23_ : A21_ ≠ A15_) (fm24_ : Arv Z h0 A22_ KK23_ (.object "java/lang/Object") 0 [] (.null)) (fm25_ : A22_ ≠ A17_) (fm26_ : A22_ ≠ A15_) (fm27_ : Fld Z h0 A10_ cC8 "key" cC9 (VR A24_)) (fm28_ : Fld Z h0 A10_ cC8 "version" cC1 (.null)) (fm29_ : Z.heap.size ≤ A15_) (fm30_ : Z.heap.size ≤ A17_) (fm31_ : Z.heap.size ≤ A10_) :
    own_T l Z a0 A h0 21 102 274 #[D0_, D1_, D2_, D3_, D4_, D5_, D6_, SI G7_, D8_, SR A10_, SR A11_, SR A12_, SI 1, SI 0, D14_, SI 1, D16_, SI 0, SU, SU, SU] := by
  refine jLA at_274 rfl (jcV 0 61 62 64 63 5 65 (nfS hw 64) (rm8_2 hw fm2_ fm3_) fm1_ pd5 at_276 rfl ?_)
  rintro _ _ ⟨rfl, rfl⟩
  exact jtI at_279 #[D0_, D1_, D2_, D3_, D4_, D5_, D6_, SI G7_, D8_, SR A10_, SR A11_, SR A12_, SI 1, SI 0, D14_, SI 1, D16_, SI 0, SI 0, SU, SU] rfl (jLI at_281 rfl (jineN at_283 (by decide) (jLI at_286 rfl (jieqY 300 at_288 fm4_ (jkI 0 at_300 rfl (jtI at_301 #[D0_, D1_, D2_, D3_, D4_, D5_, D6_, SI G7_, D8_, SR A10_, SR A11_, SR A12_, SI 1, SI 0, D14_, SI 1, D16_, SI 0, SI 0, SI 0, SU] rfl (own_mono (tl15 hw fm1_ fm2_ fm3_ fm5_ fm6_ fm7_ fm8_ fm9_ fm10_ fm11_ fm12_ fm13_ fm14_ fm29_ fm15_ fm30_ fm16_ fm17_ fm18_ fm19_ fm20_ fm21_ fm22_ fm23_ fm24_ fm25_ fm26_ fm31_ fm27_ fm28_))))))))
set_option maxRecDepth 65536 in
set_option maxHeartbeats 40000000 in
theorem rm11_5 {a1 a2 a3 : Addr} {p6 : Int32} {a13 : Addr} {k16 : ClassId} {a17 a18 a31 a47 : Addr} (hw : HW a0 Z) (f4 : Fld Z h0 a1 cC8 "others" cC11 (VR a3)) (f5 : Exa Z h0 a3 cC21) (f7 : Fld Z h0 a3 cC22 "modCount" "I" (VI p6)) (f9 : Fld Z h0 a3 cC21 "size" "I" (VI 2)) (f14 : Fld Z h0 a3 cC21 "elementData" cC1 (VR a13)) (f19 : Arv Z h0 a13 k16 (.object "java/lang/Object") 2 [VR a17, VR a18] (.null)) (f24 : Exa Z h0 a17 cC18) (f26 : Fld Z h0 a17 cC18 "granted" "Z" (VI 1)) (f29 : Fld Z h0 a17 cC18 "transaction" cC10 (VR a2)) (f32 : Fld Z h0 a17 cC18 "mode" cC3 (VR a31)) (f34 : Sta Z Z.heap cC2 "SHARED" cC3 (VR a31)) (f42 : Exa Z h0 a18 cC18) (f44 : Fld Z h0 a18 cC18 "granted" "Z" (VI 1)) (f48 : Fld Z h0 a18 cC18 "transaction" cC10 (VR a47)) (f50 : a47 ≠ a2) :
    own_M l Z h0 yM9 c11 5 (some (.object cC18)) 3 1 4 38 #[VR a1, VR a2] (fun v h => v = some (VR a17) ∧ Keep h0 h []) := by
  refine own_ent hw (plainFor_of_name pn2) #[SR a1, SR a2, SU, SU, SU] (fun _ => rfl) fun Q k => ?_
  refine own_z fun Z0 => ?_
  refine jkN d11_0 (jnta d11_1 #[SR a1, SR a2, SN, SU, SU] rfl (jLa d11_2 rfl (jgF 68 f4 d11_3 (jzN d11_6 (jLa d11_9 rfl (jgF 68 f4 d11_10 (jcF 0 186 187 188 189 190 191 192 139 110 193 (rm26_1 hw f7) f5 pd18 d11_13 rfl ?_)))))))
  rintro _ h8 ⟨b2_8, rfl, K8, lob2_8, o0_8, o1_8, o2_8, o3_8, o4_8⟩
  have F10 := f9.keep K8 nin0
  refine jta d11_18 #[SR a1, SR a2, SN, SR b2_8, SU] rfl (jLa d11_19 rfl (jcF 0 209 210 211 212 213 214 215 216 196 217 (rm28_3 hw o4_8 o1_8 F10) o0_8 pd5 d11_20 rfl ?_))
  rintro _ _ ⟨rfl, rfl⟩
  have F12 := f7.keep K8 nin0
  have F15 := f14.keep K8 nin0
  have F20 := f19.keep K8 nin0
  have v21 := own_lo f19.lt lob2_8
  have u22 := Nat.le_trans Z0 lob2_8
  refine jieqN d11_25 (by decide) (jLa d11_28 rfl (jcF 0 221 222 223 224 225 226 227 216 196 228 (rm29_2 hw o0_8 o1_8 F12 o3_8 o4_8 F10 F15 F20 u22 o2_8 v21) o0_8 pd19 d11_29 rfl ?_))
  rintro _ h23 ⟨rfl, K23, o0_23, o1_23, o2_23, o3_23, o4_23⟩
  have v27 := own_lo f24.lt lob2_8
  refine jcY 75 (Ins.self ((f24.keep K8).keep K23)) d11_34 (jtA d11_37 #[SR a1, SR a2, SN, SR b2_8, SR a17] rfl (jLA d11_39 rfl (jgR 175 ((f26.keep K8 nin0).keep K23 (ninS v27 nin0)) d11_41 (jieqN d11_44 (by decide) (jLA d11_47 rfl (jgR 236 ((f29.keep K8 nin0).keep K23 (ninS v27 nin0)) d11_49 (jLa d11_52 rfl (jac 56 d11_53 (decide_eq_true rfl) (jLA d11_56 rfl (jgR 147 ((f32.keep K8 nin0).keep K23 (ninS v27 nin0)) d11_58 (jgS 98 f34 d11_61 (jac 67 d11_64 (decide_eq_true rfl) (jLA d11_67 rfl (jta d11_69 #[SR a1, SR a2, SR a17, SR b2_8, SR a17] rfl (jgo 19 d11_70 ?_)))))))))))))))
  have v35 := own_lo f5.lt lob2_8
  have F36 := F10.keep K23 (ninS v35 nin0)
  refine jLa d11_19 rfl (jcF 0 209 210 211 212 213 214 215 216 196 217 (rm28_4 hw o3_23 o1_23 F36) o0_23 pd5 d11_20 rfl ?_)
  rintro _ _ ⟨rfl, rfl⟩
  refine jieqN d11_25 (by decide) (jLa d11_28 rfl (jcF 0 221 222 223 224 225 226 227 216 196 228 (rm29_3 hw o0_23 o1_23 (F12.keep K23 (ninS v35 nin0)) o2_23 o3_23 F36 (F15.keep K23 (ninS v35 nin0)) (F20.keep K23 (ninS v21 nin0)) u22 o4_23 v21) o0_23 pd19 d11_29 rfl ?_))
  rintro _ h41 ⟨rfl, K41, o0_41, o1_41, o2_41, o3_41, o4_41⟩
  have v45 := own_lo f42.lt lob2_8
  refine jcY 75 (Ins.self (((f42.keep K8).keep K23).keep K41)) d11_34 (jtA d11_37 #[SR a1, SR a2, SR a17, SR b2_8, SR a18] rfl (jLA d11_39 rfl (jgR 175 (((f44.keep K8 nin0).keep K23 (ninS v45 nin0)).keep K41 (ninS v45 nin0)) d11_41 (jieqN d11_44 (by decide) (jLA d11_47 rfl (jgR 236 (((f48.keep K8 nin0).keep K23 (ninS v45 nin0)).keep K41 (ninS v45 nin0)) d11_49 (jLa d11_52 rfl (jac 70 d11_53 (own_dn f50) (jgo 19 d11_70 (jLa d11_19 rfl (jcF 0 209 210 211 212 213 214 215 216 196 217 (rm28_5 hw o3_41 o1_41 (F36.keep K41 (ninS v35 nin0))) o0_41 pd5 d11_20 rfl ?_)))))))))))
  rintro _ _ ⟨rfl, rfl⟩
  exact jieqY 73 d11_25 (by decide) (jLa d11_73 rfl (jrA d11_74 (k _ _ ⟨rfl, ((((Keep.refl h0 []).trans K8 all0).trans K23 (allS (Or.inr lob2_8) all0)).trans K41 (allS (Or.inr lob2_8) all0))⟩)))
set_option maxRecDepth 65536 in
set_option maxHeartbeats 40000000 in
theorem rm51_3 {a1 a2 : Addr} {p3 : Int32} {k11 : ClassId} {a12 a13 : Addr} (hw : HW a0 Z) (f4 : Fld Z h0 a1 cC22 "modCount" "I" (VI p3)) (f5 : Exa Z h0 a1 cC21) (f6 : Z.heap.size ≤ a1) (f8 : Fld Z h0 a1 cC21 "size" "I" (VI 2)) (f14 : Arv Z h0 a2 k11 (.object "java/lang/Object") 2 [VR a12, VR a13] (.null)) (f15 : a2 ≠ a1) (f17 : Ovr Z k11 cC24) (f18 : Exa Z h0 a13 cC18) (f20 : Z.heap.size ≤ a2) (f30 : Fld Z h0 a1 cC21 "elementData" cC1 (VR a2)) (f32 : Exa Z h0 a2 cC1) :
    own_M l Z h0 yM50 c51 4 none 1 0 0 18 #[VR a1, VR a2, VI 0] (fun v h => v = none ∧ Keep h0 h [a1, a2] ∧ Fld Z h a1 cC22 "modCount" "I" (VI (p3 + (1 : Int32))) ∧ Exa Z h a1 cC21 ∧ Fld Z h a1 cC21 "size" "I" (VI 1) ∧ Fld Z h a1 cC21 "elementData" cC1 (VR a2) ∧ Arv Z h a2 k11 (.object "java/lang/Object") 2 [VR a13, .null] (.null) ∧ Exa Z h a2 cC1) := by
  refine own_ent hw (plainFor_of_name pn15) #[SR a1, SR a2, SI 0, SU] (fun _ => rfl) fun Q k => ?_
  refine jLa d51_0 rfl (jdU d51_1 rfl (jgV 167 168 f4 d51_2 (jkI 1 d51_5 rfl (jiadd d51_6 (jpVI 167 128 109 168 f4 f5 f6 d51_7 fun h7 W7 F7 => ?_)))))
  have F10 := fS f8 W7 (lA hw 142) (lA hw 128)
  refine jLa d51_10 rfl (jgF 141 F10 d51_11 (jkI 1 d51_14 rfl (jisub d51_15 (jdU d51_16 rfl (jti d51_17 #[SR a1, SR a2, SI 0, SI 1] rfl (jLi d51_18 rfl (jcleN d51_19 (by decide) (jLa d51_22 rfl (jLi d51_23 rfl (jkI 1 d51_24 rfl (jiadd d51_25 (jLa d51_26 rfl (jLi d51_27 rfl (jLi d51_28 rfl (jLi d51_29 rfl ?_)))))))))))))))
  have F16 := f14.other W7 f15
  refine jisub d51_30 (jcp [VR a13] [VR a13, VR a13] 0 469 290 288 289 F16 F16 ⟨stV F16 f17 (Ins.of_exa (f18.wr W7) (WW hw 174)), trivial⟩ f20 d51_31 rfl fun h21 K21 V21 => ?_)
  have F22 := (f5.wr W7).keep K21
  refine jLa d51_34 rfl (jLa d51_35 rfl (jLi d51_36 rfl (jdX d51_37 rfl rfl (jpFI 141 142 109 (F10.keep K21 (ninS f15.symm nin0)) F22 f6 d51_38 fun h24 W24 F24 => ?_))))
  refine jkN d51_41 (jsN (V21.other W24 f15) (by decide) f20 1 [VR a13, .null] d51_42 rfl rfl fun h26 W26 V26 => ?_)
  exact jrV d51_43 (k _ _ ⟨rfl, (((((Keep.refl h0 [a1, a2]).wr W7 (mI 0)).trans K21 (allS (mI 1) all0)).wr W24 (mI 0)).wr W26 (mI 1)), (fW (fS (F7.keep K21 (ninS f15.symm nin0)) W24 (lA hw 128) (lA hw 142)) W26 f15.symm), ((F22.wr W24).wr W26), (fW F24 W26 f15.symm), (fW (fS ((fS f30 W7 (lA hw 131) (lA hw 128)).keep K21 (ninS f15.symm nin0)) W24 (lA hw 131) (lA hw 142)) W26 f15.symm), V26, ((((f32.wr W7).keep K21).wr W24).wr W26)⟩)
set_option maxRecDepth 65536 in
set_option maxHeartbeats 40000000 in
theorem rm49_3 {a1 a2 a3 : Addr} {k6 : ClassId} {a7 : Addr} {p11 : Int32} (hw : HW a0 Z) (f4 : Fld Z h0 a1 cC21 "elementData" cC1 (VR a3)) (f5 : Fld Z h0 a1 cC21 "size" "I" (VI 2)) (f8 : Arv Z h0 a3 k6 (.object "java/lang/Object") 2 [VR a2, VR a7] (.null)) (f9 : Exa Z h0 a2 cC18) (f10 : Exa Z h0 a1 cC21) (f12 : Fld Z h0 a1 cC22 "modCount" "I" (VI p11)) (f13 : Z.heap.size ≤ a1) (f14 : a3 ≠ a1) (f15 : Ovr Z k6 cC24) (f16 : Exa Z h0 a7 cC18) (f17 : Z.heap.size ≤ a3) (f18 : Exa Z h0 a3 cC1) :
    own_M l Z h0 yM51 c49 5 (some .boolean) 2 0 0 33 #[VR a1, VR a2] (fun v h => v = some (VI 1) ∧ Keep h0 h [a1, a3] ∧ Exa Z h a1 cC21 ∧ Fld Z h a1 cC22 "modCount" "I" (VI (p11 + (1 : Int32))) ∧ Fld Z h a1 cC21 "size" "I" (VI 1) ∧ Fld Z h a1 cC21 "elementData" cC1 (VR a3) ∧ Exa Z h a3 cC1 ∧ Arv Z h a3 k6 (.object "java/lang/Object") 2 [VR a7, .null] (.null)) := by
  refine own_ent hw (plainFor_of_name pn15) #[SR a1, SR a2, SU, SU, SU] (fun _ => rfl) fun Q k => ?_
  refine jLa d49_0 rfl (jgF 130 f4 d49_1 (jta d49_4 #[SR a1, SR a2, SR a3, SU, SU] rfl (jLa d49_5 rfl (jgF 141 f5 d49_6 (jti d49_9 #[SR a1, SR a2, SR a3, SI 2, SU] rfl (jkI 0 d49_10 rfl (jtI d49_11 #[SR a1, SR a2, SR a3, SI 2, SI 0] rfl (jLa d49_13 rfl (jyY 39 d49_14 (jLI d49_39 rfl (jLi d49_41 rfl (jcgeN d49_42 (by decide) (jLa d49_45 rfl (jLa d49_46 rfl (jLI d49_47 rfl ?_)))))))))))))))
  refine jaa f8 (by decide) (VR a2) rfl d49_49 (jeT 0 379 380 382 381 383 (nfT hw 253) f9 d49_50 (jieqN d49_53 (by decide) (jgo 67 d49_56 (jLa d49_67 rfl (jLa d49_68 rfl (jLI d49_69 rfl (jcP 0 384 109 386 385 110 388 (rm51_3 hw f12 f10 f13 f5 f8 f14 f15 f16 f17 f4 f18) f10 pd30 d49_71 rfl ?_)))))))
  rintro _ h19 ⟨rfl, K19, o0_19, o1_19, o2_19, o3_19, o4_19, o5_19⟩
  exact jkI 1 d49_74 rfl (jrZ d49_75 (k _ _ ⟨rfl, ((Keep.refl h0 [a1, a3]).trans K19 (allS (mI 0) (allS (mI 1) all0))), o1_19, o0_19, o2_19, o3_19, o5_19, o4_19⟩))
set_option maxRecDepth 65536 in
set_option maxHeartbeats 40000000 in
theorem rm25_5 {a1 a2 a5 : Addr} {p8 : Int32} {a11 : Addr} {k13 : ClassId} {a14 a15 a20 a25 a48 a51 : Addr} (hw : HW a0 Z) (f3 : Fld Z h0 a1 cC8 "exclusive" cC10 (.null)) (f4 : Exa Z h0 a1 cC8) (f6 : Fld Z h0 a1 cC8 "others" cC11 (VR a5)) (f7 : Exa Z h0 a5 cC21) (f9 : Fld Z h0 a5 cC22 "modCount" "I" (VI p8)) (f10 : Fld Z h0 a5 cC21 "size" "I" (VI 2)) (f12 : Fld Z h0 a5 cC21 "elementData" cC1 (VR a11)) (f16 : Arv Z h0 a11 k13 (.object "java/lang/Object") 2 [VR a14, VR a15] (.null)) (f17 : Exa Z h0 a14 cC18) (f18 : Fld Z h0 a14 cC18 "granted" "Z" (VI 1)) (f19 : Fld Z h0 a14 cC18 "transaction" cC10 (VR a2)) (f21 : Fld Z h0 a14 cC18 "mode" cC3 (VR a20)) (f22 : Sta Z Z.heap cC2 "SHARED" cC3 (VR a20)) (f23 : Exa Z h0 a15 cC18) (f24 : Fld Z h0 a15 cC18 "granted" "Z" (VI 1)) (f26 : Fld Z h0 a15 cC18 "transaction" cC10 (VR a25)) (f27 : a25 ≠ a2) (f36 : Z.heap.size ≤ a5) (f37 : a11 ≠ a5) (f38 : Ovr Z k13 cC24) (f40 : Z.heap.size ≤ a11) (f41 : Exa Z h0 a11 cC1) (f45 : a1 ≠ a11) (f46 : a1 ≠ a5) (f49 : own_Mir Z cC1 a48) (f52 : Sta Z Z.heap cC34 "EMPTY" cC9 (VR a51)) (f53 : a15 ≠ a11) (f54 : a15 ≠ a5) :
    own_M l Z h0 yM49 c25 3 (some .boolean) 9 4 11 115 #[VR a1, VR a2] (fun v h => v = some (VI 0) ∧ Keep h0 h [a5, a11] ∧ Exa Z h a5 cC21 ∧ Fld Z h a5 cC22 "modCount" "I" (VI (p8 + (1 : Int32))) ∧ Fld Z h a5 cC21 "size" "I" (VI 1) ∧ Fld Z h a5 cC21 "elementData" cC1 (VR a11) ∧ Exa Z h a11 cC1 ∧ Arv Z h a11 k13 (.object "java/lang/Object") 2 [VR a15, .null] (.null)) := by
  refine own_ent hw (plainFor_of_name pn2) #[SR a1, SR a2, SU] (fun _ => rfl) fun Q k => ?_
  refine jLa d25_0 rfl (jgF 66 f3 d25_1 (jLa d25_4 rfl (jac 18 d25_5 (decide_eq_false nofun) (jLa d25_18 rfl (jLa d25_19 rfl (jcP 0 82 4 84 83 5 85 (rm11_5 hw f6 f7 f9 f10 f12 f16 f17 f18 f19 f21 f22 f23 f24 f26 f27) f4 pd6 d25_20 rfl ?_))))))
  rintro _ h28 ⟨rfl, K28⟩
  have F29 := f6.keep K28 nin0
  have F30 := f7.keep K28
  have F39 := f23.keep K28
  refine jta d25_23 #[SR a1, SR a2, SR a14] rfl (jLa d25_24 rfl (jzN d25_25 (jLa d25_28 rfl (jgF 68 F29 d25_29 (jLa d25_32 rfl (jcF 0 371 372 373 374 375 376 377 139 110 378 (rm49_3 hw (f12.keep K28 nin0) (f10.keep K28 nin0) (f16.keep K28 nin0) (f17.keep K28) F30 (f9.keep K28 nin0) f36 f37 f38 F39 f40 (f41.keep K28)) F30 pd14 d25_33 rfl ?_))))))
  rintro _ h43 ⟨rfl, K43, o0_43, o1_43, o2_43, o3_43, o4_43, o5_43⟩
  have F44 := (f4.keep K28).keep K43
  refine jpO d25_38 rfl (jLa d25_39 rfl (jcP 0 237 4 239 238 5 240 (rm31_1 hw (F29.keep K43 (ninS f46 (ninS f45 nin0))) o0_43 o2_43 o3_43 o4_43 f49 o5_43 (F39.keep K43) f52 ((f24.keep K28 nin0).keep K43 (ninS f54 (ninS f53 nin0))) F44) F44 pd5 d25_40 rfl ?_))
  rintro _ h56 ⟨rfl, K56⟩
  exact jrZ d25_43 (k _ _ ⟨rfl, ((((Keep.refl h0 [a5, a11]).trans K28 all0).trans K43 (allS (mI 0) (allS (mI 1) all0))).trans K56 all0), (o0_43.keep K56), (o1_43.keep K56 nin0), (o2_43.keep K56 nin0), (o3_43.keep K56 nin0), (o4_43.keep K56), (o5_43.keep K56 nin0)⟩)
set_option maxRecDepth 65536 in
set_option maxHeartbeats 40000000 in
theorem tl28 {D0_ D1_ D2_ D3_ D4_ D5_ D6_ D7_ D8_ : Slot} {A10_ A11_ A12_ : Addr} {D14_ D15_ D16_ D17_ : Slot} {A17_ : Addr} {P18_ : Int32} {A19_ : Addr} {KK20_ : ClassId} {A21_ A22_ A23_ A24_ A25_ A26_ : Addr} {KK27_ : ClassId} {A28_ : Addr} (hw : HW a0 Z) (fm1_ : Exa Z h0 A10_ cC8) (fm2_ : Fld Z h0 A10_ cC8 "exclusive" cC10 (.null)) (fm3_ : Fld Z h0 A10_ cC8 "others" cC11 (VR A17_)) (fm4_ : Exa Z h0 A17_ cC21) (fm5_ : Fld Z h0 A17_ cC22 "modCount" "I" (VI P18_)) (fm6_ : Fld Z h0 A17_ cC21 "size" "I" (VI 1)) (fm7_ : Fld Z h0 A17_ cC21 "elementData" cC1 (VR A19_)) (fm8_ : Arv Z h0 A19_ KK20_ (.object "java/lang/Object") 2 [VR A21_, .null] (.null)) (fm9_ : Exa Z h0 A21_ cC18) (fm10_ : Fld Z h0 A21_ cC18 "granted" "Z" (VI 1)) (fm11_ : Fld Z h0 A21_ cC18 "transaction" cC10 (VR A12_)) (fm12_ : A12_ ≠ A11_) (fm13_ : Exa Z h0 A19_ cC1) (fm14_ : own_Mir Z cC1 A22_) (fm15_ : Sta Z Z.heap cC34 "EMPTY" cC9 (VR A23_)) (fm16_ : Fld Z h0 A21_ cC18 "mode" cC3 (VR A24_)) (fm17_ : Sta Z Z.heap cC2 "SHARED" cC3 (VR A24_)) (fm18_ : A19_ ≠ A17_) (fm19_ : A10_ ≠ A19_) (fm20_ : A10_ ≠ A17_) (fm21_ : Sta Z Z.heap cC34 "EMPTY_LIST" cC36 (VR A25_)) (fm22_ : Exa Z h0 A25_ cC0) (fm23_ : Fld Z h0 A25_ cC0 "elements" cC1 (VR A26_)) (fm24_ : A25_ ≠ A19_) (fm25_ : A25_ ≠ A17_) (fm26_ : Arv Z h0 A26_ KK27_ (.object "java/lang/Object") 0 [] (.null)) (fm27_ : A26_ ≠ A19_) (fm28_ : A26_ ≠ A17_) (fm29_ : Fld Z h0 A10_ cC8 "key" cC9 (VR A28_)) (fm30_ : Fld Z h0 A10_ cC8 "version" cC1 (.null)) (fm31_ : Z.heap.size ≤ A17_) (fm32_ : Z.heap.size ≤ A19_) (fm33_ : Z.heap.size ≤ A10_) :
    own_T l Z a0 A h0 21 102 303 #[D0_, D1_, D2_, D3_, D4_, D5_, D6_, D7_, D8_, SR A10_, SR A11_, SR A12_, SI 1, SI 0, D14_, D15_, D16_, D17_, SI 0, SI 0, SU] := by
  refine jLA at_303 rfl (jLA at_305 rfl (jcV 0 181 182 184 183 5 185 (nfS hw 184) (rm25_1 hw fm2_ fm1_ fm3_ fm4_ fm5_ fm6_ fm7_ fm8_ fm9_ fm10_ fm11_ fm12_ fm13_ fm14_ fm15_) fm1_ pd7 at_307 rfl ?_))
  rintro _ h1 ⟨rfl, K1⟩
  have F2 := fm1_.keep K1
  refine jpO at_310 rfl (jLA at_311 rfl (jLA at_313 rfl (jcV 0 181 182 184 183 5 185 (nfS hw 184) (rm25_2 hw (fm2_.keep K1 nin0) F2 (fm3_.keep K1 nin0) (fm4_.keep K1) (fm5_.keep K1 nin0) (fm6_.keep K1 nin0) (fm7_.keep K1 nin0) (fm8_.keep K1 nin0) (fm9_.keep K1) (fm10_.keep K1 nin0) (fm11_.keep K1 nin0) (fm16_.keep K1 nin0) fm17_ fm31_ fm18_ fm32_ (fm13_.keep K1) fm19_ fm20_ fm21_ (fm22_.keep K1) (fm23_.keep K1 nin0) fm24_ fm25_ (fm26_.keep K1 nin0) fm27_ fm28_ fm33_ (fm29_.keep K1 nin0) (fm30_.keep K1 nin0)) F2 pd7 at_315 rfl ?_)))
  rintro _ h20 ⟨rfl, K20, o0_20, o1_20, o2_20, o3_20, o4_20, o5_20, o6_20, o7_20, o8_20, o9_20, o10_20⟩
  exact jpO at_318 rfl (own_mono (tl16 hw o6_20 o8_20 o7_20))
set_option maxRecDepth 65536 in
set_option maxHeartbeats 40000000 in
theorem tl27 {D0_ D1_ D2_ D3_ D4_ D5_ D6_ : Slot} {G7_ : Int32} {D8_ : Slot} {A10_ A11_ A12_ : Addr} {D14_ D16_ : Slot} {A15_ : Addr} {P16_ : Int32} {A17_ : Addr} {KK18_ : ClassId} {A19_ A20_ A21_ A22_ A23_ A24_ : Addr} {KK25_ : ClassId} {A26_ : Addr} (hw : HW a0 Z) (fm1_ : Exa Z h0 A10_ cC8) (fm2_ : Fld Z h0 A10_ cC8 "exclusive" cC10 (.null)) (fm3_ : Fld Z h0 A10_ cC8 "others" cC11 (VR A15_)) (fm4_ : ¬ (G7_ = (0 : Int32))) (fm5_ : Exa Z h0 A15_ cC21) (fm6_ : Fld Z h0 A15_ cC22 "modCount" "I" (VI P16_)) (fm7_ : Fld Z h0 A15_ cC21 "size" "I" (VI 1)) (fm8_ : Fld Z h0 A15_ cC21 "elementData" cC1 (VR A17_)) (fm9_ : Arv Z h0 A17_ KK18_ (.object "java/lang/Object") 2 [VR A19_, .null] (.null)) (fm10_ : Exa Z h0 A19_ cC18) (fm11_ : Fld Z h0 A19_ cC18 "granted" "Z" (VI 1)) (fm12_ : Fld Z h0 A19_ cC18 "transaction" cC10 (VR A12_)) (fm13_ : A12_ ≠ A11_) (fm14_ : Exa Z h0 A17_ cC1) (fm15_ : own_Mir Z cC1 A20_) (fm16_ : Sta Z Z.heap cC34 "EMPTY" cC9 (VR A21_)) (fm17_ : Fld Z h0 A19_ cC18 "mode" cC3 (VR A22_)) (fm18_ : Sta Z Z.heap cC2 "SHARED" cC3 (VR A22_)) (fm19_ : A17_ ≠ A15_) (fm20_ : A10_ ≠ A17_) (fm21_ : A10_ ≠ A15_) (fm22_ : Sta Z Z.heap cC34 "EMPTY_LIST" cC36 (VR A23_)) (fm23_ : Exa Z h0 A23_ cC0) (fm24_ : Fld Z h0 A23_ cC0 "elements" cC1 (VR A24_)) (fm25_ : A23_ ≠ A17_) (fm26_ : A23_ ≠ A15_) (fm27_ : Arv Z h0 A24_ KK25_ (.object "java/lang/Object") 0 [] (.null)) (fm28_ : A24_ ≠ A17_) (fm29_ : A24_ ≠ A15_) (fm30_ : Fld Z h0 A10_ cC8 "key" cC9 (VR A26_)) (fm31_ : Fld Z h0 A10_ cC8 "version" cC1 (.null)) (fm32_ : Z.heap.size ≤ A15_) (fm33_ : Z.heap.size ≤ A17_) (fm34_ : Z.heap.size ≤ A10_) :
    own_T l Z a0 A h0 21 102 274 #[D0_, D1_, D2_, D3_, D4_, D5_, D6_, SI G7_, D8_, SR A10_, SR A11_, SR A12_, SI 1, SI 0, D14_, SI 1, D16_, SI 0, SU, SU, SU] := by
  refine jLA at_274 rfl (jcV 0 61 62 64 63 5 65 (nfS hw 64) (rm8_2 hw fm2_ fm3_) fm1_ pd5 at_276 rfl ?_)
  rintro _ _ ⟨rfl, rfl⟩
  exact jtI at_279 #[D0_, D1_, D2_, D3_, D4_, D5_, D6_, SI G7_, D8_, SR A10_, SR A11_, SR A12_, SI 1, SI 0, D14_, SI 1, D16_, SI 0, SI 0, SU, SU] rfl (jLI at_281 rfl (jineN at_283 (by decide) (jLI at_286 rfl (jieqN at_288 fm4_ (jLI at_291 rfl (jineY 300 at_293 (by decide) (jkI 0 at_300 rfl (jtI at_301 #[D0_, D1_, D2_, D3_, D4_, D5_, D6_, SI G7_, D8_, SR A10_, SR A11_, SR A12_, SI 1, SI 0, D14_, SI 1, D16_, SI 0, SI 0, SI 0, SU] rfl (own_mono (tl28 hw fm1_ fm2_ fm3_ fm5_ fm6_ fm7_ fm8_ fm9_ fm10_ fm11_ fm12_ fm13_ fm14_ fm15_ fm16_ fm17_ fm18_ fm19_ fm20_ fm21_ fm22_ fm23_ fm24_ fm25_ fm26_ fm27_ fm28_ fm29_ fm30_ fm31_ fm32_ fm33_ fm34_))))))))))
set_option maxRecDepth 65536 in
set_option maxHeartbeats 40000000 in
theorem tl25 {D0_ D1_ D2_ D3_ D4_ D5_ D6_ : Slot} {G7_ : Int32} {D8_ : Slot} {A10_ A11_ A12_ A13_ : Addr} {D16_ : Slot} {A15_ : Addr} {P16_ : Int32} {A17_ : Addr} {KK18_ : ClassId} {A19_ A20_ A21_ A22_ A23_ A24_ : Addr} {KK25_ : ClassId} {A26_ : Addr} (hw : HW a0 Z) (fm1_ : Exa Z h0 A10_ cC8) (fm2_ : Fld Z h0 A10_ cC8 "exclusive" cC10 (.null)) (fm3_ : Fld Z h0 A10_ cC8 "others" cC11 (VR A15_)) (fm4_ : Exa Z h0 A15_ cC21) (fm5_ : Fld Z h0 A15_ cC22 "modCount" "I" (VI P16_)) (fm6_ : Fld Z h0 A15_ cC21 "size" "I" (VI 2)) (fm7_ : Fld Z h0 A15_ cC21 "elementData" cC1 (VR A17_)) (fm8_ : Arv Z h0 A17_ KK18_ (.object "java/lang/Object") 2 [VR A19_, VR A13_] (.null)) (fm9_ : Exa Z h0 A19_ cC18) (fm10_ : Fld Z h0 A19_ cC18 "granted" "Z" (VI 1)) (fm11_ : Fld Z h0 A19_ cC18 "transaction" cC10 (VR A11_)) (fm12_ : A11_ ≠ A12_) (fm13_ : Exa Z h0 A13_ cC18) (fm14_ : Fld Z h0 A13_ cC18 "granted" "Z" (VI 1)) (fm15_ : Fld Z h0 A13_ cC18 "transaction" cC10 (VR A12_)) (fm16_ : Fld Z h0 A13_ cC18 "mode" cC3 (VR A20_)) (fm17_ : Sta Z Z.heap cC2 "SHARED" cC3 (VR A20_)) (fm18_ : A13_ ≠ A19_) (fm19_ : Z.heap.size ≤ A15_) (fm20_ : A17_ ≠ A15_) (fm21_ : Z.heap.size ≤ A17_) (fm22_ : Exa Z h0 A17_ cC1) (fm23_ : A10_ ≠ A17_) (fm24_ : A10_ ≠ A15_) (fm25_ : own_Mir Z cC1 A21_) (fm26_ : Sta Z Z.heap cC34 "EMPTY" cC9 (VR A22_)) (fm27_ : A19_ ≠ A17_) (fm28_ : A19_ ≠ A15_) (fm29_ : Fld Z h0 A19_ cC18 "mode" cC3 (VR A20_)) (fm30_ : Sta Z Z.heap cC34 "EMPTY_LIST" cC36 (VR A23_)) (fm31_ : Exa Z h0 A23_ cC0) (fm32_ : Fld Z h0 A23_ cC0 "elements" cC1 (VR A24_)) (fm33_ : A23_ ≠ A17_) (fm34_ : A23_ ≠ A15_) (fm35_ : Arv Z h0 A24_ KK25_ (.object "java/lang/Object") 0 [] (.null)) (fm36_ : A24_ ≠ A17_) (fm37_ : A24_ ≠ A15_) (fm38_ : Fld Z h0 A10_ cC8 "key" cC9 (VR A26_)) (fm39_ : Fld Z h0 A10_ cC8 "version" cC1 (.null)) (fm40_ : Z.heap.size ≤ A10_) (fm41_ : A12_ ≠ A11_) (fm42_ : Ovr Z KK18_ cC24) (fm43_ : A13_ ≠ A17_) (fm44_ : A13_ ≠ A15_) :
    own_T l Z a0 A h0 15 77 234 #[D0_, D1_, D2_, D3_, D4_, D5_, D6_, SI G7_, D8_, SR A10_, SR A11_, SR A12_, SI 1, SI 0, SR A13_, SI 1, D16_, SI 0, SU, SU, SU] := by
  by_cases hm0 : G7_ = (0 : Int32)
  ·
    refine jLI at_234 rfl (jieqY 250 at_236 (by decide) (jLI at_250 rfl (jieqY 266 at_252 hm0 (jLA at_266 rfl (jLA at_268 rfl (jcV 0 181 182 184 183 5 185 (nfS hw 184) (rm25_4 hw fm2_ fm1_ fm3_ fm4_ fm5_ fm6_ fm7_ fm8_ fm9_ fm10_ fm11_ fm12_ fm13_ fm14_ fm15_ fm16_ fm17_ fm18_ fm19_ fm20_ fm21_ fm22_ fm23_ fm24_ fm25_ fm26_ fm27_ fm28_) fm1_ pd7 at_270 rfl ?_))))))
    rintro _ h1 ⟨rfl, K1, o0_1, o1_1, o2_1, o3_1, o4_1, o5_1⟩
    exact jpO at_273 rfl (own_mono (tl26 hw (fm1_.keep K1) (fm2_.keep K1 (ninS fm24_ (ninS fm23_ nin0))) (fm3_.keep K1 (ninS fm24_ (ninS fm23_ nin0))) hm0 o0_1 o1_1 o2_1 o3_1 o5_1 (fm9_.keep K1) (fm10_.keep K1 (ninS fm28_ (ninS fm27_ nin0))) (fm11_.keep K1 (ninS fm28_ (ninS fm27_ nin0))) (fm29_.keep K1 (ninS fm28_ (ninS fm27_ nin0))) fm17_ fm20_ o4_1 fm23_ fm24_ fm30_ (fm31_.keep K1) (fm32_.keep K1 (ninS fm34_ (ninS fm33_ nin0))) fm33_ fm34_ (fm35_.keep K1 (ninS fm37_ (ninS fm36_ nin0))) fm36_ fm37_ (fm38_.keep K1 (ninS fm24_ (ninS fm23_ nin0))) (fm39_.keep K1 (ninS fm24_ (ninS fm23_ nin0))) fm19_ fm21_ fm40_))
  ·
    refine jLI at_234 rfl (jieqY 250 at_236 (by decide) (jLI at_250 rfl (jieqN at_252 hm0 (jLA at_255 rfl (jLA at_257 rfl (jcV 0 181 182 184 183 5 185 (nfS hw 184) (rm25_5 hw fm2_ fm1_ fm3_ fm4_ fm5_ fm6_ fm7_ fm8_ fm9_ fm10_ fm11_ fm29_ fm17_ fm13_ fm14_ fm15_ fm41_ fm19_ fm20_ fm42_ fm21_ fm22_ fm23_ fm24_ fm25_ fm26_ fm43_ fm44_) fm1_ pd7 at_259 rfl ?_))))))
    rintro _ h1 ⟨rfl, K1, o0_1, o1_1, o2_1, o3_1, o4_1, o5_1⟩
    exact jpO at_262 rfl (jgo 274 at_263 (own_mono (tl27 hw (fm1_.keep K1) (fm2_.keep K1 (ninS fm24_ (ninS fm23_ nin0))) (fm3_.keep K1 (ninS fm24_ (ninS fm23_ nin0))) hm0 o0_1 o1_1 o2_1 o3_1 o5_1 (fm13_.keep K1) (fm14_.keep K1 (ninS fm44_ (ninS fm43_ nin0))) (fm15_.keep K1 (ninS fm44_ (ninS fm43_ nin0))) fm41_ o4_1 fm25_ fm26_ (fm16_.keep K1 (ninS fm44_ (ninS fm43_ nin0))) fm17_ fm20_ fm23_ fm24_ fm30_ (fm31_.keep K1) (fm32_.keep K1 (ninS fm34_ (ninS fm33_ nin0))) fm33_ fm34_ (fm35_.keep K1 (ninS fm37_ (ninS fm36_ nin0))) fm36_ fm37_ (fm38_.keep K1 (ninS fm24_ (ninS fm23_ nin0))) (fm39_.keep K1 (ninS fm24_ (ninS fm23_ nin0))) fm19_ fm21_ fm40_)))
set_option maxRecDepth 65536 in
set_option maxHeartbeats 40000000 in
theorem tl24 {D0_ D1_ D2_ D3_ D4_ D5_ D6_ : Slot} {G7_ G8_ : Int32} {A10_ A11_ A12_ A13_ A14_ : Addr} {P15_ : Int32} {A16_ : Addr} {KK17_ : ClassId} {A18_ A19_ A20_ A21_ A22_ A23_ : Addr} {KK24_ : ClassId} {A25_ : Addr} (hw : HW a0 Z) (fm1_ : Exa Z h0 A10_ cC8) (fm2_ : Fld Z h0 A10_ cC8 "exclusive" cC10 (.null)) (fm3_ : Fld Z h0 A10_ cC8 "others" cC11 (VR A14_)) (fm4_ : Exa Z h0 A14_ cC21) (fm5_ : Fld Z h0 A14_ cC22 "modCount" "I" (VI P15_)) (fm6_ : Fld Z h0 A14_ cC21 "size" "I" (VI 2)) (fm7_ : Fld Z h0 A14_ cC21 "elementData" cC1 (VR A16_)) (fm8_ : Arv Z h0 A16_ KK17_ (.object "java/lang/Object") 2 [VR A18_, VR A13_] (.null)) (fm9_ : Exa Z h0 A18_ cC18) (fm10_ : Fld Z h0 A18_ cC18 "granted" "Z" (VI 1)) (fm11_ : Fld Z h0 A18_ cC18 "transaction" cC10 (VR A11_)) (fm12_ : A11_ ≠ A12_) (fm13_ : Exa Z h0 A13_ cC18) (fm14_ : Fld Z h0 A13_ cC18 "granted" "Z" (VI 1)) (fm15_ : Fld Z h0 A13_ cC18 "transaction" cC10 (VR A12_)) (fm16_ : Fld Z h0 A13_ cC18 "mode" cC3 (VR A19_)) (fm17_ : Sta Z Z.heap cC2 "SHARED" cC3 (VR A19_)) (fm18_ : A13_ ≠ A18_) (fm19_ : Z.heap.size ≤ A14_) (fm20_ : A16_ ≠ A14_) (fm21_ : Z.heap.size ≤ A16_) (fm22_ : Exa Z h0 A16_ cC1) (fm23_ : A10_ ≠ A16_) (fm24_ : A10_ ≠ A14_) (fm25_ : own_Mir Z cC1 A20_) (fm26_ : Sta Z Z.heap cC34 "EMPTY" cC9 (VR A21_)) (fm27_ : A18_ ≠ A16_) (fm28_ : A18_ ≠ A14_) (fm29_ : Fld Z h0 A18_ cC18 "mode" cC3 (VR A19_)) (fm30_ : Sta Z Z.heap cC34 "EMPTY_LIST" cC36 (VR A22_)) (fm31_ : Exa Z h0 A22_ cC0) (fm32_ : Fld Z h0 A22_ cC0 "elements" cC1 (VR A23_)) (fm33_ : A22_ ≠ A16_) (fm34_ : A22_ ≠ A14_) (fm35_ : Arv Z h0 A23_ KK24_ (.object "java/lang/Object") 0 [] (.null)) (fm36_ : A23_ ≠ A16_) (fm37_ : A23_ ≠ A14_) (fm38_ : Fld Z h0 A10_ cC8 "key" cC9 (VR A25_)) (fm39_ : Fld Z h0 A10_ cC8 "version" cC1 (.null)) (fm40_ : Z.heap.size ≤ A10_) (fm41_ : Ovr Z KK17_ cC24) (fm42_ : A13_ ≠ A16_) (fm43_ : A13_ ≠ A14_) :
    own_T l Z a0 A h0 15 77 217 #[D0_, D1_, D2_, D3_, D4_, D5_, D6_, SI G7_, SI G8_, SR A10_, SR A11_, SR A12_, SI 1, SI 0, SR A13_, SI 1, SI 0, SU, SU, SU, SU] := by
  exact jLI at_217 rfl (jieqY 231 at_219 (by decide) (jkI 0 at_231 rfl (jtI at_232 #[D0_, D1_, D2_, D3_, D4_, D5_, D6_, SI G7_, SI G8_, SR A10_, SR A11_, SR A12_, SI 1, SI 0, SR A13_, SI 1, SI 0, SI 0, SU, SU, SU] rfl (own_mono (tl25 hw fm1_ fm2_ fm3_ fm4_ fm5_ fm6_ fm7_ fm8_ fm9_ fm10_ fm11_ fm12_ fm13_ fm14_ fm15_ fm16_ fm17_ fm18_ fm19_ fm20_ fm21_ fm22_ fm23_ fm24_ fm25_ fm26_ fm27_ fm28_ fm29_ fm30_ fm31_ fm32_ fm33_ fm34_ fm35_ fm36_ fm37_ fm38_ fm39_ fm40_ fm12_.symm fm41_ fm42_ fm43_)))))
set_option maxRecDepth 65536 in
set_option maxHeartbeats 40000000 in
theorem tl23 {D0_ D1_ D2_ : Slot} {A4_ : Addr} {D4_ D5_ : Slot} {G7_ G8_ : Int32} {A9_ A10_ A11_ A12_ A13_ : Addr} {P14_ : Int32} {A15_ : Addr} {KK16_ : ClassId} {A17_ A18_ A19_ A20_ A21_ : Addr} {KK22_ : ClassId} {A23_ : Addr} (hw : HW a0 Z) (fm1_ : Sta Z Z.heap cC2 "SHARED" cC3 (VR A4_)) (fm2_ : Exa Z h0 A9_ cC8) (fm3_ : Fld Z h0 A9_ cC8 "exclusive" cC10 (.null)) (fm4_ : Fld Z h0 A9_ cC8 "others" cC11 (VR A13_)) (fm5_ : Exa Z h0 A13_ cC21) (fm6_ : Fld Z h0 A13_ cC22 "modCount" "I" (VI P14_)) (fm7_ : Fld Z h0 A13_ cC21 "size" "I" (VI 2)) (fm8_ : Fld Z h0 A13_ cC21 "elementData" cC1 (VR A15_)) (fm9_ : Arv Z h0 A15_ KK16_ (.object "java/lang/Object") 2 [VR A17_, VR A12_] (.null)) (fm10_ : Exa Z h0 A17_ cC18) (fm11_ : Fld Z h0 A17_ cC18 "granted" "Z" (VI 1)) (fm12_ : Fld Z h0 A17_ cC18 "transaction" cC10 (VR A10_)) (fm13_ : A10_ ≠ A11_) (fm14_ : Exa Z h0 A12_ cC18) (fm15_ : Fld Z h0 A12_ cC18 "granted" "Z" (VI 1)) (fm16_ : Fld Z h0 A12_ cC18 "transaction" cC10 (VR A11_)) (fm17_ : Fld Z h0 A12_ cC18 "mode" cC3 (VR A4_)) (fm18_ : A12_ ≠ A17_) (fm19_ : Z.heap.size ≤ A13_) (fm20_ : A15_ ≠ A13_) (fm21_ : Z.heap.size ≤ A15_) (fm22_ : Exa Z h0 A15_ cC1) (fm23_ : A9_ ≠ A15_) (fm24_ : A9_ ≠ A13_) (fm25_ : own_Mir Z cC1 A18_) (fm26_ : Sta Z Z.heap cC34 "EMPTY" cC9 (VR A19_)) (fm27_ : A17_ ≠ A15_) (fm28_ : A17_ ≠ A13_) (fm29_ : Fld Z h0 A17_ cC18 "mode" cC3 (VR A4_)) (fm30_ : Sta Z Z.heap cC34 "EMPTY_LIST" cC36 (VR A20_)) (fm31_ : Exa Z h0 A20_ cC0) (fm32_ : Fld Z h0 A20_ cC0 "elements" cC1 (VR A21_)) (fm33_ : A20_ ≠ A15_) (fm34_ : A20_ ≠ A13_) (fm35_ : Arv Z h0 A21_ KK22_ (.object "java/lang/Object") 0 [] (.null)) (fm36_ : A21_ ≠ A15_) (fm37_ : A21_ ≠ A13_) (fm38_ : Fld Z h0 A9_ cC8 "key" cC9 (VR A23_)) (fm39_ : Fld Z h0 A9_ cC8 "version" cC1 (.null)) (fm40_ : Z.heap.size ≤ A9_) (fm41_ : Ovr Z KK16_ cC24) (fm42_ : A12_ ≠ A15_) (fm43_ : A12_ ≠ A13_) :
    own_T l Z a0 A h0 15 77 190 #[D0_, D1_, D2_, SR A4_, D4_, D5_, SR A4_, SI G7_, SI G8_, SR A9_, SR A10_, SR A11_, SI 1, SI 0, SR A12_, SI 1, SU, SU, SU, SU, SU] := by
  exact jLI at_190 rfl (jieqN at_192 (by decide) (jLa at_195 rfl (jgS 0 fm1_ at_196 (jac 202 at_199 (decide_eq_true rfl) (jLA at_202 rfl (jgS 0 fm1_ at_204 (jac 214 at_207 (decide_eq_true rfl) (jkI 0 at_214 rfl (jtI at_215 #[D0_, D1_, D2_, SR A4_, D4_, D5_, SR A4_, SI G7_, SI G8_, SR A9_, SR A10_, SR A11_, SI 1, SI 0, SR A12_, SI 1, SI 0, SU, SU, SU, SU] rfl (own_mono (tl24 hw fm2_ fm3_ fm4_ fm5_ fm6_ fm7_ fm8_ fm9_ fm10_ fm11_ fm12_ fm13_ fm14_ fm15_ fm16_ fm17_ fm1_ fm18_ fm19_ fm20_ fm21_ fm22_ fm23_ fm24_ fm25_ fm26_ fm27_ fm28_ fm29_ fm30_ fm31_ fm32_ fm33_ fm34_ fm35_ fm36_ fm37_ fm38_ fm39_ fm40_ fm41_ fm42_ fm43_)))))))))))
set_option maxRecDepth 65536 in
set_option maxHeartbeats 40000000 in
theorem tl22 {D0_ D1_ D2_ : Slot} {A4_ : Addr} {G4_ G5_ G7_ G8_ : Int32} {A9_ A10_ A11_ A12_ A13_ : Addr} {P14_ : Int32} {A15_ : Addr} {KK16_ : ClassId} {A17_ A18_ A19_ A20_ A21_ : Addr} {KK22_ : ClassId} {A23_ : Addr} (hw : HW a0 Z) (fm1_ : ¬ (G4_ = (0 : Int32))) (fm2_ : G5_ = (0 : Int32)) (fm3_ : Sta Z Z.heap cC2 "SHARED" cC3 (VR A4_)) (fm4_ : Exa Z h0 A9_ cC8) (fm5_ : Fld Z h0 A9_ cC8 "exclusive" cC10 (.null)) (fm6_ : Fld Z h0 A9_ cC8 "others" cC11 (VR A13_)) (fm7_ : Exa Z h0 A13_ cC21) (fm8_ : Fld Z h0 A13_ cC22 "modCount" "I" (VI P14_)) (fm9_ : Fld Z h0 A13_ cC21 "size" "I" (VI 2)) (fm10_ : Fld Z h0 A13_ cC21 "elementData" cC1 (VR A15_)) (fm11_ : Arv Z h0 A15_ KK16_ (.object "java/lang/Object") 2 [VR A17_, VR A12_] (.null)) (fm12_ : Exa Z h0 A17_ cC18) (fm13_ : Fld Z h0 A17_ cC18 "granted" "Z" (VI 1)) (fm14_ : Fld Z h0 A17_ cC18 "transaction" cC10 (VR A10_)) (fm15_ : A10_ ≠ A11_) (fm16_ : Exa Z h0 A12_ cC18) (fm17_ : Fld Z h0 A12_ cC18 "granted" "Z" (VI 1)) (fm18_ : Fld Z h0 A12_ cC18 "transaction" cC10 (VR A11_)) (fm19_ : Fld Z h0 A12_ cC18 "mode" cC3 (VR A4_)) (fm20_ : A12_ ≠ A17_) (fm21_ : Z.heap.size ≤ A13_) (fm22_ : A15_ ≠ A13_) (fm23_ : Z.heap.size ≤ A15_) (fm24_ : Exa Z h0 A15_ cC1) (fm25_ : A9_ ≠ A15_) (fm26_ : A9_ ≠ A13_) (fm27_ : own_Mir Z cC1 A18_) (fm28_ : Sta Z Z.heap cC34 "EMPTY" cC9 (VR A19_)) (fm29_ : A17_ ≠ A15_) (fm30_ : A17_ ≠ A13_) (fm31_ : Fld Z h0 A17_ cC18 "mode" cC3 (VR A4_)) (fm32_ : Sta Z Z.heap cC34 "EMPTY_LIST" cC36 (VR A20_)) (fm33_ : Exa Z h0 A20_ cC0) (fm34_ : Fld Z h0 A20_ cC0 "elements" cC1 (VR A21_)) (fm35_ : A20_ ≠ A15_) (fm36_ : A20_ ≠ A13_) (fm37_ : Arv Z h0 A21_ KK22_ (.object "java/lang/Object") 0 [] (.null)) (fm38_ : A21_ ≠ A15_) (fm39_ : A21_ ≠ A13_) (fm40_ : Fld Z h0 A9_ cC8 "key" cC9 (VR A23_)) (fm41_ : Fld Z h0 A9_ cC8 "version" cC1 (.null)) (fm42_ : Z.heap.size ≤ A9_) (fm43_ : Ovr Z KK16_ cC24) (fm44_ : A12_ ≠ A15_) (fm45_ : A12_ ≠ A13_) :
    own_T l Z a0 A h0 15 77 173 #[D0_, D1_, D2_, SR A4_, SI G4_, SI G5_, SR A4_, SI G7_, SI G8_, SR A9_, SR A10_, SR A11_, SI 1, SI 0, SR A12_, SU, SU, SU, SU, SU, SU] := by
  exact jLI at_173 rfl (jieqN at_175 fm1_ (jLI at_178 rfl (jineN at_180 fm2_ (jkI 1 at_183 rfl (jgo 188 at_184 (jtI at_188 #[D0_, D1_, D2_, SR A4_, SI G4_, SI G5_, SR A4_, SI G7_, SI G8_, SR A9_, SR A10_, SR A11_, SI 1, SI 0, SR A12_, SI 1, SU, SU, SU, SU, SU] rfl (own_mono (tl23 hw fm3_ fm4_ fm5_ fm6_ fm7_ fm8_ fm9_ fm10_ fm11_ fm12_ fm13_ fm14_ fm15_ fm16_ fm17_ fm18_ fm19_ fm20_ fm21_ fm22_ fm23_ fm24_ fm25_ fm26_ fm27_ fm28_ fm29_ fm30_ fm31_ fm32_ fm33_ fm34_ fm35_ fm36_ fm37_ fm38_ fm39_ fm40_ fm41_ fm42_ fm43_ fm44_ fm45_))))))))
set_option maxRecDepth 65536 in
set_option maxHeartbeats 40000000 in
theorem rm10_3 {a1 a2 a5 : Addr} {p8 : Int32} {a11 : Addr} {k13 : ClassId} {a14 a19 : Addr} (hw : HW a0 Z) (f3 : Fld Z h0 a1 cC8 "exclusive" cC10 (.null)) (f4 : Exa Z h0 a1 cC8) (f6 : Fld Z h0 a1 cC8 "others" cC11 (VR a5)) (f7 : Exa Z h0 a5 cC21) (f9 : Fld Z h0 a5 cC22 "modCount" "I" (VI p8)) (f10 : Fld Z h0 a5 cC21 "size" "I" (VI 1)) (f12 : Fld Z h0 a5 cC21 "elementData" cC1 (VR a11)) (f15 : Arv Z h0 a11 k13 (.object "java/lang/Object") 2 [VR a14, .null] (.null)) (f16 : Exa Z h0 a14 cC18) (f17 : Fld Z h0 a14 cC18 "granted" "Z" (VI 1)) (f18 : Fld Z h0 a14 cC18 "transaction" cC10 (VR a2)) (f20 : Fld Z h0 a14 cC18 "mode" cC3 (VR a19)) (f21 : Sta Z Z.heap cC2 "SHARED" cC3 (VR a19)) :
    own_M l Z h0 yM10 c10 2 (some .boolean) 4 1 4 54 #[VR a1, VR a2] (fun v h => v = some (VI 1) ∧ Keep h0 h []) := by
  refine own_ent hw (plainFor_of_name pn2) #[SR a1, SR a2] (fun _ => rfl) fun Q k => ?_
  refine jLa d10_0 rfl (jgF 66 f3 d10_1 (jLa d10_4 rfl (jac 8 d10_5 (decide_eq_false nofun) (jLa d10_8 rfl (jLa d10_9 rfl (jcP 0 82 4 84 83 5 85 (rm11_3 hw f6 f7 f9 f10 f12 f15 f16 f17 f18 f20 f21) f4 pd6 d10_10 rfl ?_))))))
  rintro _ h22 ⟨rfl, K22⟩
  exact jzN d10_13 (jkI 1 d10_16 rfl (jgo 21 d10_17 (jrZ d10_21 (k _ _ ⟨rfl, ((Keep.refl h0 []).trans K22 all0)⟩))))
set_option maxRecDepth 65536 in
set_option maxHeartbeats 40000000 in
theorem rm12_2 {a1 a2 a3 a4 : Addr} (hw : HW a0 Z) (f5 : Exa Z h0 a1 cC18) (f6 : Fld Z h0 a1 cC18 "row" cC19 (.null)) (f7 : Z.heap.size ≤ a1) (f10 : Fld Z h0 a1 cC18 "transaction" cC10 (.null)) (f14 : Fld Z h0 a1 cC18 "mode" cC3 (.null)) (f18 : Fld Z h0 a1 cC18 "first" "Z" (VI 0)) (f25 : Fld Z h0 a1 cC18 "granted" "Z" (VI 0)) :
    own_M l Z h0 yM11 c12 5 none 1 0 0 12 #[VR a1, VR a2, VR a3, VR a4, VI 0] (fun v h => v = none ∧ Keep h0 h [a1] ∧ Exa Z h a1 cC18 ∧ Fld Z h a1 cC18 "row" cC19 (VR a2) ∧ Fld Z h a1 cC18 "transaction" cC10 (VR a3) ∧ Fld Z h a1 cC18 "mode" cC3 (VR a4) ∧ Fld Z h a1 cC18 "first" "Z" (VI 0) ∧ Fld Z h a1 cC18 "granted" "Z" (VI 0)) := by
  refine own_ent hw (plainFor_of_name pn12) #[SR a1, SR a2, SR a3, SR a4, SI 0] (fun _ => rfl) fun Q k => ?_
  refine jLa d12_0 rfl (jiO 0 89 18 19 d12_1 (jLa d12_4 rfl (jLa d12_5 rfl (jpLR 90 91 76 f6 f5 f7 d12_6 fun h8 W8 F8 => ?_))))
  have F9 := f5.wr W8
  refine jLa d12_9 rfl (jLa d12_10 rfl (jpLR 92 93 76 (fS f10 W8 (lB hw 93) (lB hw 91)) F9 f7 d12_11 fun h12 W12 F12 => ?_))
  have F13 := F9.wr W12
  refine jLa d12_14 rfl (jLa d12_15 rfl (jpLR 94 95 76 (fS (fS f14 W8 (lB hw 95) (lB hw 91)) W12 (lB hw 95) (lB hw 93)) F13 f7 d12_16 fun h16 W16 F16 => ?_))
  have F17 := F13.wr W16
  refine jLa d12_19 rfl (jLI d12_20 rfl (jpLZ 96 97 76 (fS (fS (fS f18 W8 (lB hw 97) (lB hw 91)) W12 (lB hw 97) (lB hw 93)) W16 (lB hw 97) (lB hw 95)) F17 f7 d12_22 fun h20 W20 F20 => ?_))
  exact jrV d12_25 (k _ _ ⟨rfl, (((((Keep.refl h0 [a1]).wr W8 (mI 0)).wr W12 (mI 0)).wr W16 (mI 0)).wr W20 (mI 0)), (F17.wr W20), (fS (fS (fS F8 W12 (lB hw 91) (lB hw 93)) W16 (lB hw 91) (lB hw 95)) W20 (lB hw 91) (lB hw 97)), (fS (fS F12 W16 (lB hw 93) (lB hw 95)) W20 (lB hw 93) (lB hw 97)), (fS F16 W20 (lB hw 95) (lB hw 97)), F20, (fS (fS (fS (fS f25 W8 (lA hw 176) (lB hw 91)) W12 (lA hw 176) (lB hw 93)) W16 (lA hw 176) (lB hw 95)) W20 (lA hw 176) (lB hw 97))⟩)
set_option maxRecDepth 65536 in
set_option maxHeartbeats 40000000 in
theorem rm9_3 {a1 a2 a3 a14 : Addr} {p19 : Int32} {a24 : Addr} {k27 : ClassId} {a28 : Addr} (hw : HW a0 Z) (f10 : Exa Z h0 a1 cC8) (f12 : Fld Z h0 a1 cC8 "exclusive" cC10 (.null)) (f15 : Fld Z h0 a1 cC8 "others" cC11 (VR a14)) (f17 : Exa Z h0 a14 cC21) (f20 : Fld Z h0 a14 cC22 "modCount" "I" (VI p19)) (f22 : Fld Z h0 a14 cC21 "size" "I" (VI 1)) (f25 : Fld Z h0 a14 cC21 "elementData" cC1 (VR a24)) (f29 : Arv Z h0 a24 k27 (.object "java/lang/Object") 2 [VR a28, .null] (.null)) (f31 : Exa Z h0 a28 cC18) (f33 : Fld Z h0 a28 cC18 "granted" "Z" (VI 1)) (f35 : Fld Z h0 a28 cC18 "transaction" cC10 (VR a2)) (f37 : Fld Z h0 a28 cC18 "mode" cC3 (VR a3)) (f39 : Sta Z Z.heap cC2 "SHARED" cC3 (VR a3)) :
    own_M l Z h0 yM24 c9 4 (some (.object cC18)) 5 3 13 72 #[VR a1, VR a2, VR a3] (fun v h => ∃ (b4 : Addr), v = some (VR b4) ∧ Keep h0 h [] ∧ h0.size ≤ b4 ∧ Exa Z h b4 cC18 ∧ Fld Z h b4 cC18 "row" cC19 (VR a1) ∧ Fld Z h b4 cC18 "transaction" cC10 (VR a2) ∧ Fld Z h b4 cC18 "mode" cC3 (VR a3) ∧ Fld Z h b4 cC18 "first" "Z" (VI 0) ∧ Fld Z h b4 cC18 "granted" "Z" (VI 1)) := by
  refine own_ent hw (plainFor_of_name pn2) #[SR a1, SR a2, SR a3, SU] (fun _ => rfl) fun Q k => ?_
  refine jnew 75 76 77 d9_0 fun b4 h4 g4 u4 E4 A4 D4 => ?_
  have F11 := f10.ext E4
  have F13 := f12.ext E4
  have F16 := f15.ext E4
  have F18 := f17.ext E4
  have F21 := f20.ext E4
  have F23 := f22.ext E4
  have F26 := f25.ext E4
  have F30 := f29.ext E4
  have F32 := f31.ext E4
  have F34 := f33.ext E4
  have F36 := f35.ext E4
  have F38 := f37.ext E4
  refine jdU d9_3 rfl (jLa d9_4 rfl (jLa d9_5 rfl (jLa d9_6 rfl (jLa d9_7 rfl (jLa d9_8 rfl (jcP 5 78 4 80 79 5 81 (rm10_3 hw F13 F11 F16 F18 F21 F23 F26 F30 F32 F34 F36 F38 f39) F11 pd7 d9_9 rfl ?_))))))
  rintro _ h40 ⟨rfl, K40⟩
  refine jineY 19 d9_12 (by decide) (jkI 0 d9_19 rfl (jcR 1 86 87 77 88 (rm12_2 hw (A4.keep K40) ((dN D4 (lB hw 91)).keep K40 nin0) u4 ((dN D4 (lB hw 93)).keep K40 nin0) ((dN D4 (lB hw 95)).keep K40 nin0) ((dZ D4 (lB hw 97)).keep K40 nin0) ((dZ D4 (lA hw 176)).keep K40 nin0)) pd8 d9_20 rfl ?_))
  rintro _ h47 ⟨rfl, K47, o0_47, o1_47, o2_47, o3_47, o4_47, o5_47⟩
  have v48 := own_lo f10.lt g4
  have F50 := (F11.keep K40).keep K47
  have F51 := (F16.keep K40 nin0).keep K47 (ninS v48 nin0)
  have F52 := (F18.keep K40).keep K47
  have v53 := own_lo f17.lt g4
  have F55 := (F23.keep K40 nin0).keep K47 (ninS v53 nin0)
  have v60 := own_lo f31.lt g4
  refine jta d9_23 #[SR a1, SR a2, SR a3, SR b4] rfl (jLa d9_24 rfl (jgF 66 ((F13.keep K40 nin0).keep K47 (ninS v48 nin0)) d9_25 (jLa d9_28 rfl (jac 32 d9_29 (decide_eq_false nofun) (jLa d9_32 rfl (jgS 98 f39 d9_33 (jac 39 d9_36 (decide_eq_true rfl) (jLa d9_39 rfl (jLa d9_40 rfl (jcP 0 82 4 84 83 5 85 (rm11_3 hw F51 F52 ((F21.keep K40 nin0).keep K47 (ninS v53 nin0)) F55 ((F26.keep K40 nin0).keep K47 (ninS v53 nin0)) ((F30.keep K40 nin0).keep K47 (ninS (own_lo f29.lt g4) nin0)) ((F32.keep K40).keep K47) ((F34.keep K40 nin0).keep K47 (ninS v60 nin0)) ((F36.keep K40 nin0).keep K47 (ninS v60 nin0)) ((F38.keep K40 nin0).keep K47 (ninS v60 nin0)) f39) F50 pd6 d9_41 rfl ?_))))))))))
  rintro _ h64 ⟨rfl, K64⟩
  have F65 := o0_47.keep K64
  refine jzN d9_44 (jLa d9_47 rfl (jkI 1 d9_48 rfl (jpRZ 175 176 76 (o5_47.keep K64 nin0) F65 u4 d9_49 fun h67 W67 F67 => ?_)))
  refine jgo 82 d9_52 (jLa d9_82 rfl (jcP 0 177 4 179 178 5 180 (rm24_1 hw (fW (F51.keep K64 nin0) W67 v48) ((F52.keep K64).wr W67) (fW (F55.keep K64 nin0) W67 v53)) ((F50.keep K64).wr W67) pd0 d9_83 rfl ?_))
  rintro _ _ ⟨rfl, rfl⟩
  exact jLa d9_86 rfl (jrA d9_87 (k _ _ ⟨b4, rfl, ((((((Keep.refl h0 []).ext E4).trans K40 all0).trans K47 (allS (Or.inr g4) all0)).trans K64 all0).wr W67 (Or.inr g4)), g4, (F65.wr W67), (fS (o1_47.keep K64 nin0) W67 (lB hw 91) (lA hw 176)), (fS (o2_47.keep K64 nin0) W67 (lB hw 93) (lA hw 176)), (fS (o3_47.keep K64 nin0) W67 (lB hw 95) (lA hw 176)), (fS (o4_47.keep K64 nin0) W67 (lB hw 97) (lA hw 176)), F67⟩))
set_option maxRecDepth 65536 in
set_option maxHeartbeats 40000000 in
theorem tl32 {D0_ D1_ D2_ D3_ D4_ D5_ D6_ : Slot} {G7_ : Int32} {D8_ : Slot} {A10_ A11_ A12_ A13_ : Addr} {D16_ : Slot} {A15_ : Addr} {P16_ : Int32} {A17_ : Addr} {KK18_ : ClassId} {A19_ A20_ A21_ A22_ A23_ A24_ : Addr} {KK25_ : ClassId} {A26_ : Addr} (hw : HW a0 Z) (fm1_ : Exa Z h0 A10_ cC8) (fm2_ : Fld Z h0 A10_ cC8 "exclusive" cC10 (.null)) (fm3_ : Fld Z h0 A10_ cC8 "others" cC11 (VR A15_)) (fm4_ : Exa Z h0 A15_ cC21) (fm5_ : Fld Z h0 A15_ cC22 "modCount" "I" (VI P16_)) (fm6_ : Fld Z h0 A15_ cC21 "size" "I" (VI 1)) (fm7_ : Fld Z h0 A15_ cC21 "elementData" cC1 (VR A17_)) (fm8_ : Arv Z h0 A17_ KK18_ (.object "java/lang/Object") 2 [VR A19_, .null] (.null)) (fm9_ : Exa Z h0 A19_ cC18) (fm10_ : Fld Z h0 A19_ cC18 "granted" "Z" (VI 1)) (fm11_ : Fld Z h0 A19_ cC18 "transaction" cC10 (VR A11_)) (fm12_ : A11_ ≠ A12_) (fm13_ : Exa Z h0 A17_ cC1) (fm14_ : own_Mir Z cC1 A20_) (fm15_ : Sta Z Z.heap cC34 "EMPTY" cC9 (VR A21_)) (fm16_ : Fld Z h0 A19_ cC18 "mode" cC3 (VR A22_)) (fm17_ : Sta Z Z.heap cC2 "SHARED" cC3 (VR A22_)) (fm18_ : A17_ ≠ A15_) (fm19_ : A10_ ≠ A17_) (fm20_ : A10_ ≠ A15_) (fm21_ : Sta Z Z.heap cC34 "EMPTY_LIST" cC36 (VR A23_)) (fm22_ : Exa Z h0 A23_ cC0) (fm23_ : Fld Z h0 A23_ cC0 "elements" cC1 (VR A24_)) (fm24_ : A23_ ≠ A17_) (fm25_ : A23_ ≠ A15_) (fm26_ : Arv Z h0 A24_ KK25_ (.object "java/lang/Object") 0 [] (.null)) (fm27_ : A24_ ≠ A17_) (fm28_ : A24_ ≠ A15_) (fm29_ : Fld Z h0 A10_ cC8 "key" cC9 (VR A26_)) (fm30_ : Fld Z h0 A10_ cC8 "version" cC1 (.null)) (fm31_ : Z.heap.size ≤ A15_) (fm32_ : Z.heap.size ≤ A17_) (fm33_ : Z.heap.size ≤ A10_) :
    own_T l Z a0 A h0 15 77 234 #[D0_, D1_, D2_, D3_, D4_, D5_, D6_, SI G7_, D8_, SR A10_, SR A11_, SR A12_, SI 1, SI 0, SR A13_, SI 0, D16_, SI 0, SU, SU, SU] := by
  by_cases hm0 : G7_ = (0 : Int32)
  ·
    refine jLI at_234 rfl (jieqY 250 at_236 (by decide) (jLI at_250 rfl (jieqY 266 at_252 hm0 (jLA at_266 rfl (jLA at_268 rfl (jcV 0 181 182 184 183 5 185 (nfS hw 184) (rm25_1 hw fm2_ fm1_ fm3_ fm4_ fm5_ fm6_ fm7_ fm8_ fm9_ fm10_ fm11_ fm12_ fm13_ fm14_ fm15_) fm1_ pd7 at_270 rfl ?_))))))
    rintro _ h1 ⟨rfl, K1⟩
    exact jpO at_273 rfl (own_mono (tl14 hw (fm1_.keep K1) (fm2_.keep K1 nin0) (fm3_.keep K1 nin0) hm0 (fm4_.keep K1) (fm5_.keep K1 nin0) (fm6_.keep K1 nin0) (fm7_.keep K1 nin0) (fm8_.keep K1 nin0) (fm9_.keep K1) (fm10_.keep K1 nin0) (fm11_.keep K1 nin0) (fm16_.keep K1 nin0) fm17_ fm31_ fm18_ fm32_ (fm13_.keep K1) fm19_ fm20_ fm21_ (fm22_.keep K1) (fm23_.keep K1 nin0) fm24_ fm25_ (fm26_.keep K1 nin0) fm27_ fm28_ fm33_ (fm29_.keep K1 nin0) (fm30_.keep K1 nin0)))
  ·
    refine jLI at_234 rfl (jieqY 250 at_236 (by decide) (jLI at_250 rfl (jieqN at_252 hm0 (jLA at_255 rfl (jLA at_257 rfl (jcV 0 181 182 184 183 5 185 (nfS hw 184) (rm25_2 hw fm2_ fm1_ fm3_ fm4_ fm5_ fm6_ fm7_ fm8_ fm9_ fm10_ fm11_ fm16_ fm17_ fm31_ fm18_ fm32_ fm13_ fm19_ fm20_ fm21_ fm22_ fm23_ fm24_ fm25_ fm26_ fm27_ fm28_ fm33_ fm29_ fm30_) fm1_ pd7 at_259 rfl ?_))))))
    rintro _ h1 ⟨rfl, K1, o0_1, o1_1, o2_1, o3_1, o4_1, o5_1, o6_1, o7_1, o8_1, o9_1, o10_1⟩
    exact jpO at_262 rfl (jgo 274 at_263 (own_mono (tl18 hw o6_1 o8_1 o7_1 hm0)))
set_option maxRecDepth 65536 in
set_option maxHeartbeats 40000000 in
theorem tl31 {D0_ D1_ D2_ D3_ D4_ D5_ D6_ : Slot} {G7_ G8_ : Int32} {A10_ A11_ A12_ A13_ A14_ : Addr} {P15_ : Int32} {A16_ : Addr} {KK17_ : ClassId} {A18_ A19_ A20_ A21_ A22_ A23_ : Addr} {KK24_ : ClassId} {A25_ : Addr} (hw : HW a0 Z) (fm1_ : Exa Z h0 A10_ cC8) (fm2_ : Fld Z h0 A10_ cC8 "exclusive" cC10 (.null)) (fm3_ : Fld Z h0 A10_ cC8 "others" cC11 (VR A14_)) (fm4_ : Exa Z h0 A14_ cC21) (fm5_ : Fld Z h0 A14_ cC22 "modCount" "I" (VI P15_)) (fm6_ : Fld Z h0 A14_ cC21 "size" "I" (VI 1)) (fm7_ : Fld Z h0 A14_ cC21 "elementData" cC1 (VR A16_)) (fm8_ : Arv Z h0 A16_ KK17_ (.object "java/lang/Object") 2 [VR A18_, .null] (.null)) (fm9_ : Exa Z h0 A18_ cC18) (fm10_ : Fld Z h0 A18_ cC18 "granted" "Z" (VI 1)) (fm11_ : Fld Z h0 A18_ cC18 "transaction" cC10 (VR A11_)) (fm12_ : A11_ ≠ A12_) (fm13_ : Exa Z h0 A16_ cC1) (fm14_ : own_Mir Z cC1 A19_) (fm15_ : Sta Z Z.heap cC34 "EMPTY" cC9 (VR A20_)) (fm16_ : Fld Z h0 A18_ cC18 "mode" cC3 (VR A21_)) (fm17_ : Sta Z Z.heap cC2 "SHARED" cC3 (VR A21_)) (fm18_ : A16_ ≠ A14_) (fm19_ : A10_ ≠ A16_) (fm20_ : A10_ ≠ A14_) (fm21_ : Sta Z Z.heap cC34 "EMPTY_LIST" cC36 (VR A22_)) (fm22_ : Exa Z h0 A22_ cC0) (fm23_ : Fld Z h0 A22_ cC0 "elements" cC1 (VR A23_)) (fm24_ : A22_ ≠ A16_) (fm25_ : A22_ ≠ A14_) (fm26_ : Arv Z h0 A23_ KK24_ (.object "java/lang/Object") 0 [] (.null)) (fm27_ : A23_ ≠ A16_) (fm28_ : A23_ ≠ A14_) (fm29_ : Fld Z h0 A10_ cC8 "key" cC9 (VR A25_)) (fm30_ : Fld Z h0 A10_ cC8 "version" cC1 (.null)) (fm31_ : Z.heap.size ≤ A14_) (fm32_ : Z.heap.size ≤ A16_) (fm33_ : Z.heap.size ≤ A10_) :
    own_T l Z a0 A h0 15 77 217 #[D0_, D1_, D2_, D3_, D4_, D5_, D6_, SI G7_, SI G8_, SR A10_, SR A11_, SR A12_, SI 1, SI 0, SR A13_, SI 0, SI 0, SU, SU, SU, SU] := by
  exact jLI at_217 rfl (jieqY 231 at_219 (by decide) (jkI 0 at_231 rfl (jtI at_232 #[D0_, D1_, D2_, D3_, D4_, D5_, D6_, SI G7_, SI G8_, SR A10_, SR A11_, SR A12_, SI 1, SI 0, SR A13_, SI 0, SI 0, SI 0, SU, SU, SU] rfl (own_mono (tl32 hw fm1_ fm2_ fm3_ fm4_ fm5_ fm6_ fm7_ fm8_ fm9_ fm10_ fm11_ fm12_ fm13_ fm14_ fm15_ fm16_ fm17_ fm18_ fm19_ fm20_ fm21_ fm22_ fm23_ fm24_ fm25_ fm26_ fm27_ fm28_ fm29_ fm30_ fm31_ fm32_ fm33_)))))
set_option maxRecDepth 65536 in
set_option maxHeartbeats 40000000 in
theorem tl30 {D0_ D1_ D2_ : Slot} {A4_ : Addr} {D4_ D5_ : Slot} {G7_ G8_ : Int32} {A9_ A10_ A11_ A12_ A13_ : Addr} {P14_ : Int32} {A15_ : Addr} {KK16_ : ClassId} {A17_ A18_ A19_ A20_ A21_ : Addr} {KK22_ : ClassId} {A23_ : Addr} (hw : HW a0 Z) (fm1_ : Exa Z h0 A9_ cC8) (fm2_ : Fld Z h0 A9_ cC8 "exclusive" cC10 (.null)) (fm3_ : Fld Z h0 A9_ cC8 "others" cC11 (VR A13_)) (fm4_ : Exa Z h0 A13_ cC21) (fm5_ : Fld Z h0 A13_ cC22 "modCount" "I" (VI P14_)) (fm6_ : Fld Z h0 A13_ cC21 "size" "I" (VI 1)) (fm7_ : Fld Z h0 A13_ cC21 "elementData" cC1 (VR A15_)) (fm8_ : Arv Z h0 A15_ KK16_ (.object "java/lang/Object") 2 [VR A17_, .null] (.null)) (fm9_ : Exa Z h0 A17_ cC18) (fm10_ : Fld Z h0 A17_ cC18 "granted" "Z" (VI 1)) (fm11_ : Fld Z h0 A17_ cC18 "transaction" cC10 (VR A10_)) (fm12_ : A10_ ≠ A11_) (fm13_ : Exa Z h0 A15_ cC1) (fm14_ : own_Mir Z cC1 A18_) (fm15_ : Sta Z Z.heap cC34 "EMPTY" cC9 (VR A19_)) (fm16_ : Fld Z h0 A17_ cC18 "mode" cC3 (VR A4_)) (fm17_ : Sta Z Z.heap cC2 "SHARED" cC3 (VR A4_)) (fm18_ : A15_ ≠ A13_) (fm19_ : A9_ ≠ A15_) (fm20_ : A9_ ≠ A13_) (fm21_ : Sta Z Z.heap cC34 "EMPTY_LIST" cC36 (VR A20_)) (fm22_ : Exa Z h0 A20_ cC0) (fm23_ : Fld Z h0 A20_ cC0 "elements" cC1 (VR A21_)) (fm24_ : A20_ ≠ A15_) (fm25_ : A20_ ≠ A13_) (fm26_ : Arv Z h0 A21_ KK22_ (.object "java/lang/Object") 0 [] (.null)) (fm27_ : A21_ ≠ A15_) (fm28_ : A21_ ≠ A13_) (fm29_ : Fld Z h0 A9_ cC8 "key" cC9 (VR A23_)) (fm30_ : Fld Z h0 A9_ cC8 "version" cC1 (.null)) (fm31_ : Z.heap.size ≤ A13_) (fm32_ : Z.heap.size ≤ A15_) (fm33_ : Z.heap.size ≤ A9_) :
    own_T l Z a0 A h0 15 77 190 #[D0_, D1_, D2_, SR A4_, D4_, D5_, SR A4_, SI G7_, SI G8_, SR A9_, SR A10_, SR A11_, SI 1, SI 0, SR A12_, SI 0, SU, SU, SU, SU, SU] := by
  exact jLI at_190 rfl (jieqY 214 at_192 (by decide) (jkI 0 at_214 rfl (jtI at_215 #[D0_, D1_, D2_, SR A4_, D4_, D5_, SR A4_, SI G7_, SI G8_, SR A9_, SR A10_, SR A11_, SI 1, SI 0, SR A12_, SI 0, SI 0, SU, SU, SU, SU] rfl (own_mono (tl31 hw fm1_ fm2_ fm3_ fm4_ fm5_ fm6_ fm7_ fm8_ fm9_ fm10_ fm11_ fm12_ fm13_ fm14_ fm15_ fm16_ fm17_ fm18_ fm19_ fm20_ fm21_ fm22_ fm23_ fm24_ fm25_ fm26_ fm27_ fm28_ fm29_ fm30_ fm31_ fm32_ fm33_)))))
set_option maxRecDepth 65536 in
set_option maxHeartbeats 40000000 in
theorem tl29 {D0_ D1_ D2_ : Slot} {A4_ : Addr} {G4_ G5_ G7_ G8_ : Int32} {A9_ A10_ A11_ A12_ A13_ : Addr} {P14_ : Int32} {A15_ : Addr} {KK16_ : ClassId} {A17_ A18_ A19_ A20_ A21_ : Addr} {KK22_ : ClassId} {A23_ : Addr} (hw : HW a0 Z) (fm1_ : ¬ (G4_ = (0 : Int32))) (fm2_ : ¬ (G5_ = (0 : Int32))) (fm3_ : Exa Z h0 A9_ cC8) (fm4_ : Fld Z h0 A9_ cC8 "exclusive" cC10 (.null)) (fm5_ : Fld Z h0 A9_ cC8 "others" cC11 (VR A13_)) (fm6_ : Exa Z h0 A13_ cC21) (fm7_ : Fld Z h0 A13_ cC22 "modCount" "I" (VI P14_)) (fm8_ : Fld Z h0 A13_ cC21 "size" "I" (VI 1)) (fm9_ : Fld Z h0 A13_ cC21 "elementData" cC1 (VR A15_)) (fm10_ : Arv Z h0 A15_ KK16_ (.object "java/lang/Object") 2 [VR A17_, .null] (.null)) (fm11_ : Exa Z h0 A17_ cC18) (fm12_ : Fld Z h0 A17_ cC18 "granted" "Z" (VI 1)) (fm13_ : Fld Z h0 A17_ cC18 "transaction" cC10 (VR A10_)) (fm14_ : A10_ ≠ A11_) (fm15_ : Exa Z h0 A15_ cC1) (fm16_ : own_Mir Z cC1 A18_) (fm17_ : Sta Z Z.heap cC34 "EMPTY" cC9 (VR A19_)) (fm18_ : Fld Z h0 A17_ cC18 "mode" cC3 (VR A4_)) (fm19_ : Sta Z Z.heap cC2 "SHARED" cC3 (VR A4_)) (fm20_ : A15_ ≠ A13_) (fm21_ : A9_ ≠ A15_) (fm22_ : A9_ ≠ A13_) (fm23_ : Sta Z Z.heap cC34 "EMPTY_LIST" cC36 (VR A20_)) (fm24_ : Exa Z h0 A20_ cC0) (fm25_ : Fld Z h0 A20_ cC0 "elements" cC1 (VR A21_)) (fm26_ : A20_ ≠ A15_) (fm27_ : A20_ ≠ A13_) (fm28_ : Arv Z h0 A21_ KK22_ (.object "java/lang/Object") 0 [] (.null)) (fm29_ : A21_ ≠ A15_) (fm30_ : A21_ ≠ A13_) (fm31_ : Fld Z h0 A9_ cC8 "key" cC9 (VR A23_)) (fm32_ : Fld Z h0 A9_ cC8 "version" cC1 (.null)) (fm33_ : Z.heap.size ≤ A13_) (fm34_ : Z.heap.size ≤ A15_) (fm35_ : Z.heap.size ≤ A9_) :
    own_T l Z a0 A h0 15 77 173 #[D0_, D1_, D2_, SR A4_, SI G4_, SI G5_, SR A4_, SI G7_, SI G8_, SR A9_, SR A10_, SR A11_, SI 1, SI 0, SR A12_, SU, SU, SU, SU, SU, SU] := by
  exact jLI at_173 rfl (jieqN at_175 fm1_ (jLI at_178 rfl (jineY 187 at_180 fm2_ (jkI 0 at_187 rfl (jtI at_188 #[D0_, D1_, D2_, SR A4_, SI G4_, SI G5_, SR A4_, SI G7_, SI G8_, SR A9_, SR A10_, SR A11_, SI 1, SI 0, SR A12_, SI 0, SU, SU, SU, SU, SU] rfl (own_mono (tl30 hw fm3_ fm4_ fm5_ fm6_ fm7_ fm8_ fm9_ fm10_ fm11_ fm12_ fm13_ fm14_ fm15_ fm16_ fm17_ fm18_ fm19_ fm20_ fm21_ fm22_ fm23_ fm24_ fm25_ fm26_ fm27_ fm28_ fm29_ fm30_ fm31_ fm32_ fm33_ fm34_ fm35_)))))))
set_option maxRecDepth 65536 in
set_option maxHeartbeats 40000000 in
theorem tl9 {D0_ D1_ D2_ : Slot} {A4_ : Addr} {G4_ G5_ G7_ G8_ : Int32} {A9_ A10_ A11_ A12_ : Addr} {P13_ : Int32} {A14_ : Addr} {KK15_ : ClassId} {A16_ A17_ A18_ A19_ A20_ : Addr} {KK21_ : ClassId} {A22_ A23_ A24_ : Addr} (hw : HW a0 Z) (fm1_ : Exa Z h0 A9_ cC8) (fm2_ : Fld Z h0 A9_ cC8 "exclusive" cC10 (.null)) (fm3_ : Fld Z h0 A9_ cC8 "others" cC11 (VR A12_)) (fm4_ : Exa Z h0 A12_ cC21) (fm5_ : Fld Z h0 A12_ cC22 "modCount" "I" (VI P13_)) (fm6_ : Fld Z h0 A12_ cC21 "size" "I" (VI 1)) (fm7_ : Fld Z h0 A12_ cC21 "elementData" cC1 (VR A14_)) (fm8_ : Arv Z h0 A14_ KK15_ (.object "java/lang/Object") 2 [VR A16_, .null] (.null)) (fm9_ : Exa Z h0 A16_ cC18) (fm10_ : Fld Z h0 A16_ cC18 "granted" "Z" (VI 1)) (fm11_ : Fld Z h0 A16_ cC18 "transaction" cC10 (VR A10_)) (fm12_ : A10_ ≠ A11_) (fm13_ : Exa Z h0 A14_ cC1) (fm14_ : own_Mir Z cC1 A17_) (fm15_ : Sta Z Z.heap cC34 "EMPTY" cC9 (VR A18_)) (fm16_ : Fld Z h0 A16_ cC18 "mode" cC3 (VR A4_)) (fm17_ : Sta Z Z.heap cC2 "SHARED" cC3 (VR A4_)) (fm18_ : Z.heap.size ≤ A12_) (fm19_ : A14_ ≠ A12_) (fm20_ : Z.heap.size ≤ A14_) (fm21_ : A9_ ≠ A14_) (fm22_ : A9_ ≠ A12_) (fm23_ : Sta Z Z.heap cC34 "EMPTY_LIST" cC36 (VR A19_)) (fm24_ : Exa Z h0 A19_ cC0) (fm25_ : Fld Z h0 A19_ cC0 "elements" cC1 (VR A20_)) (fm26_ : A19_ ≠ A14_) (fm27_ : A19_ ≠ A12_) (fm28_ : Arv Z h0 A20_ KK21_ (.object "java/lang/Object") 0 [] (.null)) (fm29_ : A20_ ≠ A14_) (fm30_ : A20_ ≠ A12_) (fm31_ : Z.heap.size ≤ A9_) (fm32_ : Fld Z h0 A9_ cC8 "key" cC9 (VR A22_)) (fm33_ : Fld Z h0 A9_ cC8 "version" cC1 (.null)) (fm34_ : Sta Z Z.heap cC21 "DEFAULTCAPACITY_EMPTY_ELEMENTDATA" cC1 (VR A23_)) (fm35_ : Exa Z h0 A4_ cC2) (fm36_ : Sta Z Z.heap cC2 "EXCLUSIVE" cC3 (VR A24_)) (fm37_ : A4_ ≠ A24_) (fm38_ : Ovr Z KK15_ cC24) (fm39_ : A16_ ≠ A14_) (fm40_ : A16_ ≠ A12_) :
    own_T l Z a0 A h0 10 54 147 #[D0_, D1_, D2_, SR A4_, SI G4_, SI G5_, SR A4_, SI G7_, SI G8_, SR A9_, SR A10_, SR A11_, SI 1, SI 0, SN, SU, SU, SU, SU, SU, SU] := by
  by_cases hm0 : G4_ = (0 : Int32)
  ·
    exact jLI at_147 rfl (jieqY 173 at_149 hm0 (own_mono (tl10 hw hm0 fm1_ fm2_ fm3_ fm4_ fm5_ fm6_ fm7_ fm8_ fm9_ fm10_ fm11_ fm12_ fm13_ fm14_ fm15_ fm16_ fm17_ fm18_ fm19_ fm20_ fm21_ fm22_ fm23_ fm24_ fm25_ fm26_ fm27_ fm28_ fm29_ fm30_ fm31_ fm32_ fm33_)))
  ·
    by_cases hm1 : G5_ = (0 : Int32)
    ·
      refine jLI at_147 rfl (jieqN at_149 hm0 (jLA at_152 rfl (jLI at_154 rfl (jieqY 164 at_156 hm1 (jLA at_164 rfl (jLA at_166 rfl (jcV 0 70 71 73 72 5 74 (nfS hw 73) (rm9_2 hw fm1_ fm2_ fm3_ fm4_ fm5_ fm6_ fm7_ fm8_ fm9_ fm10_ fm11_ fm12_ fm17_ fm34_ fm16_ fm35_ fm36_ fm37_ fm18_ fm19_ fm20_ fm38_ fm13_ fm21_ fm22_) fm1_ pd16 at_168 rfl ?_)))))))
      rintro _ h1 ⟨b4_1, rfl, K1, lob4_1, o0_1, o1_1, o2_1, o3_1, o4_1, o5_1, o6_1, o7_1, o8_1, o9_1, o10_1, o11_1⟩
      exact jtA at_171 #[D0_, D1_, D2_, SR A4_, SI G4_, SI G5_, SR A4_, SI G7_, SI G8_, SR A9_, SR A10_, SR A11_, SI 1, SI 0, SR b4_1, SU, SU, SU, SU, SU, SU] rfl (own_mono (tl22 hw hm0 hm1 fm17_ (fm1_.keep K1) (fm2_.keep K1 (ninS fm22_ (ninS fm21_ nin0))) (fm3_.keep K1 (ninS fm22_ (ninS fm21_ nin0))) o0_1 o2_1 o1_1 o3_1 o5_1 (fm9_.keep K1) (fm10_.keep K1 (ninS fm40_ (ninS fm39_ nin0))) (fm11_.keep K1 (ninS fm40_ (ninS fm39_ nin0))) fm12_ o6_1 o8_1 o10_1 o7_1 (own_lo fm9_.lt lob4_1).symm fm18_ fm19_ fm20_ o4_1 fm21_ fm22_ fm14_ fm15_ fm39_ fm40_ (fm16_.keep K1 (ninS fm40_ (ninS fm39_ nin0))) fm23_ (fm24_.keep K1) (fm25_.keep K1 (ninS fm27_ (ninS fm26_ nin0))) fm26_ fm27_ (fm28_.keep K1 (ninS fm30_ (ninS fm29_ nin0))) fm29_ fm30_ (fm32_.keep K1 (ninS fm22_ (ninS fm21_ nin0))) (fm33_.keep K1 (ninS fm22_ (ninS fm21_ nin0))) fm31_ fm38_ (own_lo fm8_.lt lob4_1).symm (own_lo fm4_.lt lob4_1).symm))
    ·
      refine jLI at_147 rfl (jieqN at_149 hm0 (jLA at_152 rfl (jLI at_154 rfl (jieqN at_156 hm1 (jLA at_159 rfl (jgo 166 at_161 (jLA at_166 rfl (jcV 0 70 71 73 72 5 74 (nfS hw 73) (rm9_3 hw fm1_ fm2_ fm3_ fm4_ fm5_ fm6_ fm7_ fm8_ fm9_ fm10_ fm11_ fm16_ fm17_) fm1_ pd16 at_168 rfl ?_))))))))
      rintro _ h1 ⟨b4_1, rfl, K1, lob4_1, o0_1, o1_1, o2_1, o3_1, o4_1, o5_1⟩
      exact jtA at_171 #[D0_, D1_, D2_, SR A4_, SI G4_, SI G5_, SR A4_, SI G7_, SI G8_, SR A9_, SR A10_, SR A11_, SI 1, SI 0, SR b4_1, SU, SU, SU, SU, SU, SU] rfl (own_mono (tl29 hw hm0 hm1 (fm1_.keep K1) (fm2_.keep K1 nin0) (fm3_.keep K1 nin0) (fm4_.keep K1) (fm5_.keep K1 nin0) (fm6_.keep K1 nin0) (fm7_.keep K1 nin0) (fm8_.keep K1 nin0) (fm9_.keep K1) (fm10_.keep K1 nin0) (fm11_.keep K1 nin0) fm12_ (fm13_.keep K1) fm14_ fm15_ (fm16_.keep K1 nin0) fm17_ fm19_ fm21_ fm22_ fm23_ (fm24_.keep K1) (fm25_.keep K1 nin0) fm26_ fm27_ (fm28_.keep K1 nin0) fm29_ fm30_ (fm32_.keep K1 nin0) (fm33_.keep K1 nin0) fm18_ fm20_ fm31_))
set_option maxRecDepth 65536 in
set_option maxHeartbeats 40000000 in
theorem tl8 {D0_ D1_ D2_ : Slot} {A4_ : Addr} {G4_ G5_ G7_ G8_ : Int32} {A9_ A10_ A11_ A12_ A13_ A14_ A15_ A16_ A17_ A18_ : Addr} {KK19_ : ClassId} (hw : HW a0 Z) (fm1_ : Exa Z h0 A9_ cC8) (fm2_ : Fld Z h0 A9_ cC8 "exclusive" cC10 (.null)) (fm3_ : Fld Z h0 A9_ cC8 "others" cC11 (.null)) (fm4_ : Sta Z Z.heap cC2 "SHARED" cC3 (VR A4_)) (fm5_ : Sta Z Z.heap cC21 "DEFAULTCAPACITY_EMPTY_ELEMENTDATA" cC1 (VR A12_)) (fm6_ : Sta Z Z.heap cC2 "EXCLUSIVE" cC3 (VR A13_)) (fm7_ : A4_ ≠ A13_) (fm8_ : Z.heap.size ≤ A9_) (fm9_ : Fld Z h0 A9_ cC8 "key" cC9 (VR A14_)) (fm10_ : Fld Z h0 A9_ cC8 "version" cC1 (.null)) (fm11_ : A10_ ≠ A11_) (fm12_ : own_Mir Z cC1 A15_) (fm13_ : Sta Z Z.heap cC34 "EMPTY" cC9 (VR A16_)) (fm14_ : Sta Z Z.heap cC34 "EMPTY_LIST" cC36 (VR A17_)) (fm15_ : Exa Z h0 A17_ cC0) (fm16_ : Fld Z h0 A17_ cC0 "elements" cC1 (VR A18_)) (fm17_ : A17_ ≠ A9_) (fm18_ : Arv Z h0 A18_ KK19_ (.object "java/lang/Object") 0 [] (.null)) (fm19_ : A18_ ≠ A9_) (fm20_ : Exa Z h0 A4_ cC2) :
    own_T l Z a0 A h0 6 41 128 #[D0_, D1_, D2_, SR A4_, SI G4_, SI G5_, SR A4_, SI G7_, SI G8_, SR A9_, SR A10_, SR A11_, SI 1, SU, SU, SU, SU, SU, SU, SU, SU] := by
  refine own_z fun Z0 => ?_
  refine jLA at_128 rfl (jLA at_130 rfl (jLa at_132 rfl (jcV 0 70 71 73 72 5 74 (nfS hw 73) (rm9_1 hw fm1_ fm2_ fm3_ fm4_ fm5_ fm6_ fm7_ fm8_ fm9_ fm10_) fm1_ pd16 at_133 rfl ?_)))
  rintro _ h1 ⟨b4_1, b3_15_45_1, b9_7_15_45_1, k9_7_15_45_1, rfl, K1, lob4_1, lob3_15_45_1, lob9_7_15_45_1, neb4b3_15_45_1, neb4b9_7_15_45_1, neb3_15_45b9_7_15_45_1, ovk9_7_15_45_1, o0_1, o1_1, o2_1, o3_1, o4_1, o5_1, o6_1, o7_1, o8_1, o9_1, o10_1, o11_1, o12_1, o13_1, o14_1, o15_1, o16_1⟩
  refine jpO at_136 rfl (jLA at_137 rfl (jcV 0 61 62 64 63 5 65 (nfS hw 64) (rm8_2 hw o2_1 o1_1) o0_1 pd5 at_139 rfl ?_))
  rintro _ _ ⟨rfl, rfl⟩
  exact jtI at_142 #[D0_, D1_, D2_, SR A4_, SI G4_, SI G5_, SR A4_, SI G7_, SI G8_, SR A9_, SR A10_, SR A11_, SI 1, SI 0, SU, SU, SU, SU, SU, SU, SU] rfl (jkN at_144 (jntA at_145 #[D0_, D1_, D2_, SR A4_, SI G4_, SI G5_, SR A4_, SI G7_, SI G8_, SR A9_, SR A10_, SR A11_, SI 1, SI 0, SN, SU, SU, SU, SU, SU, SU] rfl (own_mono (tl9 hw o0_1 o2_1 o1_1 o11_1 o13_1 o12_1 o14_1 o16_1 o5_1 o7_1 o9_1 fm11_ o15_1 fm12_ fm13_ o6_1 fm4_ (Nat.le_trans Z0 lob3_15_45_1) neb3_15_45b9_7_15_45_1.symm (Nat.le_trans Z0 lob9_7_15_45_1) (own_lo fm1_.lt lob9_7_15_45_1) (own_lo fm1_.lt lob3_15_45_1) fm14_ (fm15_.keep K1) (fm16_.keep K1 (ninS fm17_ nin0)) (own_lo fm15_.lt lob9_7_15_45_1) (own_lo fm15_.lt lob3_15_45_1) (fm18_.keep K1 (ninS fm19_ nin0)) (own_lo fm18_.lt lob9_7_15_45_1) (own_lo fm18_.lt lob3_15_45_1) fm8_ o3_1 o4_1 fm5_ (fm20_.keep K1) fm6_ fm7_ ovk9_7_15_45_1 neb4b9_7_15_45_1 neb4b3_15_45_1))))
set_option maxRecDepth 65536 in
set_option maxHeartbeats 40000000 in
theorem tl7 {D0_ D1_ D2_ : Slot} {A4_ : Addr} {G4_ G5_ G7_ G8_ : Int32} {A9_ A10_ A11_ A12_ A13_ A14_ A15_ A16_ A17_ A18_ : Addr} {KK19_ : ClassId} (hw : HW a0 Z) (fm1_ : Exa Z h0 A9_ cC8) (fm2_ : Fld Z h0 A9_ cC8 "exclusive" cC10 (.null)) (fm3_ : Fld Z h0 A9_ cC8 "others" cC11 (.null)) (fm4_ : Sta Z Z.heap cC2 "SHARED" cC3 (VR A4_)) (fm5_ : Sta Z Z.heap cC21 "DEFAULTCAPACITY_EMPTY_ELEMENTDATA" cC1 (VR A12_)) (fm6_ : Sta Z Z.heap cC2 "EXCLUSIVE" cC3 (VR A13_)) (fm7_ : A4_ ≠ A13_) (fm8_ : Z.heap.size ≤ A9_) (fm9_ : Fld Z h0 A9_ cC8 "key" cC9 (VR A14_)) (fm10_ : Fld Z h0 A9_ cC8 "version" cC1 (.null)) (fm11_ : A10_ ≠ A11_) (fm12_ : own_Mir Z cC1 A15_) (fm13_ : Sta Z Z.heap cC34 "EMPTY" cC9 (VR A16_)) (fm14_ : Sta Z Z.heap cC34 "EMPTY_LIST" cC36 (VR A17_)) (fm15_ : Exa Z h0 A17_ cC0) (fm16_ : Fld Z h0 A17_ cC0 "elements" cC1 (VR A18_)) (fm17_ : A17_ ≠ A9_) (fm18_ : Arv Z h0 A18_ KK19_ (.object "java/lang/Object") 0 [] (.null)) (fm19_ : A18_ ≠ A9_) (fm20_ : Exa Z h0 A4_ cC2) :
    own_T l Z a0 A h0 6 41 121 #[D0_, D1_, D2_, SR A4_, SI G4_, SI G5_, SR A4_, SI G7_, SI G8_, SR A9_, SR A10_, SR A11_, SU, SU, SU, SU, SU, SU, SU, SU, SU] := by
  refine jLA at_121 rfl (jcV 0 61 62 64 63 5 65 (nfS hw 64) (rm8_1 hw fm2_ fm3_) fm1_ pd5 at_123 rfl ?_)
  rintro _ _ ⟨rfl, rfl⟩
  exact jtI at_126 #[D0_, D1_, D2_, SR A4_, SI G4_, SI G5_, SR A4_, SI G7_, SI G8_, SR A9_, SR A10_, SR A11_, SI 1, SU, SU, SU, SU, SU, SU, SU, SU] rfl (own_mono (tl8 hw fm1_ fm2_ fm3_ fm4_ fm5_ fm6_ fm7_ fm8_ fm9_ fm10_ fm11_ fm12_ fm13_ fm14_ fm15_ fm16_ fm17_ fm18_ fm19_ fm20_))
set_option maxRecDepth 65536 in
set_option maxHeartbeats 40000000 in
theorem tl6 {D0_ : Slot} {PJ2_ : Int64} {A3_ : Addr} {G4_ G5_ G7_ G8_ : Int32} {A8_ A9_ A10_ A11_ A12_ A13_ A14_ : Addr} {KK15_ : ClassId} (hw : HW a0 Z) (fm1_ : Sta Z Z.heap cC6 "cache" cC7 (VR A8_)) (fm2_ : own_BoxLong Z A8_) (fm3_ : Sta Z Z.heap cC2 "SHARED" cC3 (VR A3_)) (fm4_ : Sta Z Z.heap cC21 "DEFAULTCAPACITY_EMPTY_ELEMENTDATA" cC1 (VR A9_)) (fm5_ : Sta Z Z.heap cC2 "EXCLUSIVE" cC3 (VR A10_)) (fm6_ : A3_ ≠ A10_) (fm7_ : own_Mir Z cC1 A11_) (fm8_ : Sta Z Z.heap cC34 "EMPTY" cC9 (VR A12_)) (fm9_ : Sta Z Z.heap cC34 "EMPTY_LIST" cC36 (VR A13_)) (fm10_ : Exa Z h0 A13_ cC0) (fm11_ : Fld Z h0 A13_ cC0 "elements" cC1 (VR A14_)) (fm12_ : Arv Z h0 A14_ KK15_ (.object "java/lang/Object") 0 [] (.null)) (fm13_ : Exa Z h0 A3_ cC2) :
    own_T l Z a0 A h0 0 0 88 #[D0_, SJ PJ2_, SS, SR A3_, SI G4_, SI G5_, SR A3_, SI G7_, SI G8_, SU, SU, SU, SU, SU, SU, SU, SU, SU, SU, SU, SU] := by
  refine jnew 3 4 5 at_88 fun b1 h1 g1 u1 E1 A1 D1 => ?_
  refine jdU at_91 rfl (jLj at_92 rfl (jcS 2 6 7 8 9 (rm1_m1 hw fm1_ fm2_) pd2 at_93 rfl ?_))
  rintro _ h6 ⟨r0_6, rfl, K6, o0_6⟩
  refine jcI 1 14 15 5 16 (rm2_1 hw (A1.keep K6) ((dN D1 (lB hw 21)).keep K6 nin0) u1 ((dN D1 (lA hw 67)).keep K6 nin0) ((dN D1 (lA hw 69)).keep K6 nin0) ((dN D1 (lA hw 419)).keep K6 nin0)) pd3 at_96 rfl ?_
  rintro _ h12 ⟨rfl, K12, o0_12, o1_12, o2_12, o3_12, o4_12⟩
  refine jtA at_99 #[D0_, SJ PJ2_, SS, SR A3_, SI G4_, SI G5_, SR A3_, SI G7_, SI G8_, SR b1, SU, SU, SU, SU, SU, SU, SU, SU, SU, SU, SU] rfl (jnew 22 23 24 at_101 fun b13 h13 g13 u13 E13 A13 D13 => ?_)
  refine jdU at_104 rfl (jkN at_105 (jcI 1 25 26 24 27 (rm4_1 hw A13 (dN D13 (lB hw 56)) u13 (dJ D13 (lA hw 58)) (dN D13 (lB hw 60))) pd4 at_106 rfl ?_))
  rintro _ h17 ⟨b2_17, rfl, K17, lob2_17, o0_17, o1_17, o2_17, o3_17, o4_17, o5_17, o6_17, o7_17⟩
  refine jtA at_109 #[D0_, SJ PJ2_, SS, SR A3_, SI G4_, SI G5_, SR A3_, SI G7_, SI G8_, SR b1, SR b13, SU, SU, SU, SU, SU, SU, SU, SU, SU, SU] rfl (jnew 22 23 24 at_111 fun b18 h18 g18 u18 E18 A18 D18 => ?_)
  refine jdU at_114 rfl (jkN at_115 (jcI 1 25 26 24 27 (rm4_1 hw A18 (dN D18 (lB hw 56)) u18 (dJ D18 (lA hw 58)) (dN D18 (lB hw 60))) pd4 at_116 rfl ?_))
  rintro _ h22 ⟨b2_22, rfl, K22, lob2_22, o0_22, o1_22, o2_22, o3_22, o4_22, o5_22, o6_22, o7_22⟩
  have z26 := Nat.le_trans K6.1 K12.1
  have v24 := own_lo A1.lt (Nat.le_trans z26 g13)
  have v27 := own_lo A1.lt (Nat.le_trans (Nat.le_trans (Nat.le_trans z26 E13.1) K17.1) g18)
  have v37 := own_lo fm10_.lt g1
  have z41 := Nat.le_trans (Nat.le_trans E1.1 K6.1) K12.1
  have z44 := Nat.le_trans (Nat.le_trans z41 E13.1) K17.1
  have v46 := own_lo fm12_.lt g1
  exact jtA at_119 #[D0_, SJ PJ2_, SS, SR A3_, SI G4_, SI G5_, SR A3_, SI G7_, SI G8_, SR b1, SR b13, SR b18, SU, SU, SU, SU, SU, SU, SU, SU, SU] rfl (own_mono (tl7 hw ((((o0_12.ext E13).keep K17).ext E18).keep K22) ((((o2_12.ext E13).keep K17 (ninS v24 nin0)).ext E18).keep K22 (ninS v27 nin0)) ((((o3_12.ext E13).keep K17 (ninS v24 nin0)).ext E18).keep K22 (ninS v27 nin0)) fm3_ fm4_ fm5_ fm6_ u1 ((((o1_12.ext E13).keep K17 (ninS v24 nin0)).ext E18).keep K22 (ninS v27 nin0)) ((((o4_12.ext E13).keep K17 (ninS v24 nin0)).ext E18).keep K22 (ninS v27 nin0)) (own_lo A13.lt (Nat.le_trans K17.1 g18)) fm7_ fm8_ fm9_ (((((((fm10_.ext E1).keep K6).keep K12).ext E13).keep K17).ext E18).keep K22) (((((((fm11_.ext E1).keep K6 nin0).keep K12 (ninS v37 nin0)).ext E13).keep K17 (ninS (own_lo fm10_.lt (Nat.le_trans z41 g13)) nin0)).ext E18).keep K22 (ninS (own_lo fm10_.lt (Nat.le_trans z44 g18)) nin0)) v37 (((((((fm12_.ext E1).keep K6 nin0).keep K12 (ninS v46 nin0)).ext E13).keep K17 (ninS (own_lo fm12_.lt (Nat.le_trans z41 g13)) nin0)).ext E18).keep K22 (ninS (own_lo fm12_.lt (Nat.le_trans z44 g18)) nin0)) v46 (((((((fm13_.ext E1).keep K6).keep K12).ext E13).keep K17).ext E18).keep K22)))
set_option maxRecDepth 65536 in
set_option maxHeartbeats 40000000 in
theorem tl5 {P1_ : Int32} {PJ2_ : Int64} {A3_ : Addr} {G4_ G5_ G7_ : Int32} {A7_ A8_ A9_ A10_ A11_ A12_ A13_ : Addr} {KK14_ : ClassId} (hw : HW a0 Z) (fm1_ : Sta Z Z.heap cC6 "cache" cC7 (VR A7_)) (fm2_ : own_BoxLong Z A7_) (fm3_ : Sta Z Z.heap cC2 "SHARED" cC3 (VR A3_)) (fm4_ : Sta Z Z.heap cC21 "DEFAULTCAPACITY_EMPTY_ELEMENTDATA" cC1 (VR A8_)) (fm5_ : Sta Z Z.heap cC2 "EXCLUSIVE" cC3 (VR A9_)) (fm6_ : A3_ ≠ A9_) (fm7_ : own_Mir Z cC1 A10_) (fm8_ : Sta Z Z.heap cC34 "EMPTY" cC9 (VR A11_)) (fm9_ : Sta Z Z.heap cC34 "EMPTY_LIST" cC36 (VR A12_)) (fm10_ : Exa Z h0 A12_ cC0) (fm11_ : Fld Z h0 A12_ cC0 "elements" cC1 (VR A13_)) (fm12_ : Arv Z h0 A13_ KK14_ (.object "java/lang/Object") 0 [] (.null)) (fm13_ : Exa Z h0 A3_ cC2) :
    own_T l Z a0 A h0 0 0 74 #[SI P1_, SJ PJ2_, SS, SR A3_, SI G4_, SI G5_, SR A3_, SI G7_, SU, SU, SU, SU, SU, SU, SU, SU, SU, SU, SU, SU, SU] := by
  by_cases hm0 : (P1_ &&& (32 : Int32)) = (0 : Int32)
  ·
    exact jLi at_74 rfl (jkB 32 at_75 rfl (jiand at_77 (jieqY 85 at_78 hm0 (jkI 0 at_85 rfl (jtI at_86 #[SI P1_, SJ PJ2_, SS, SR A3_, SI G4_, SI G5_, SR A3_, SI G7_, SI 0, SU, SU, SU, SU, SU, SU, SU, SU, SU, SU, SU, SU] rfl (own_mono (tl6 hw fm1_ fm2_ fm3_ fm4_ fm5_ fm6_ fm7_ fm8_ fm9_ fm10_ fm11_ fm12_ fm13_)))))))
  ·
    exact jLi at_74 rfl (jkB 32 at_75 rfl (jiand at_77 (jieqN at_78 hm0 (jkI 1 at_81 rfl (jgo 86 at_82 (jtI at_86 #[SI P1_, SJ PJ2_, SS, SR A3_, SI G4_, SI G5_, SR A3_, SI G7_, SI 1, SU, SU, SU, SU, SU, SU, SU, SU, SU, SU, SU, SU] rfl (own_mono (tl6 hw fm1_ fm2_ fm3_ fm4_ fm5_ fm6_ fm7_ fm8_ fm9_ fm10_ fm11_ fm12_ fm13_))))))))
set_option maxRecDepth 65536 in
set_option maxHeartbeats 40000000 in
theorem tl4 {P1_ : Int32} {PJ2_ : Int64} {A3_ : Addr} {G4_ G5_ : Int32} {A6_ A7_ A8_ A9_ A10_ A11_ A12_ : Addr} {KK13_ : ClassId} (hw : HW a0 Z) (fm1_ : Sta Z Z.heap cC6 "cache" cC7 (VR A6_)) (fm2_ : own_BoxLong Z A6_) (fm3_ : Sta Z Z.heap cC2 "SHARED" cC3 (VR A3_)) (fm4_ : Sta Z Z.heap cC21 "DEFAULTCAPACITY_EMPTY_ELEMENTDATA" cC1 (VR A7_)) (fm5_ : Sta Z Z.heap cC2 "EXCLUSIVE" cC3 (VR A8_)) (fm6_ : A3_ ≠ A8_) (fm7_ : own_Mir Z cC1 A9_) (fm8_ : Sta Z Z.heap cC34 "EMPTY" cC9 (VR A10_)) (fm9_ : Sta Z Z.heap cC34 "EMPTY_LIST" cC36 (VR A11_)) (fm10_ : Exa Z h0 A11_ cC0) (fm11_ : Fld Z h0 A11_ cC0 "elements" cC1 (VR A12_)) (fm12_ : Arv Z h0 A12_ KK13_ (.object "java/lang/Object") 0 [] (.null)) (fm13_ : Exa Z h0 A3_ cC2) :
    own_T l Z a0 A h0 0 0 60 #[SI P1_, SJ PJ2_, SS, SR A3_, SI G4_, SI G5_, SR A3_, SU, SU, SU, SU, SU, SU, SU, SU, SU, SU, SU, SU, SU, SU] := by
  by_cases hm0 : (P1_ &&& (16 : Int32)) = (0 : Int32)
  ·
    exact jLi at_60 rfl (jkB 16 at_61 rfl (jiand at_63 (jieqY 71 at_64 hm0 (jkI 0 at_71 rfl (jtI at_72 #[SI P1_, SJ PJ2_, SS, SR A3_, SI G4_, SI G5_, SR A3_, SI 0, SU, SU, SU, SU, SU, SU, SU, SU, SU, SU, SU, SU, SU] rfl (own_mono (tl5 hw fm1_ fm2_ fm3_ fm4_ fm5_ fm6_ fm7_ fm8_ fm9_ fm10_ fm11_ fm12_ fm13_)))))))
  ·
    exact jLi at_60 rfl (jkB 16 at_61 rfl (jiand at_63 (jieqN at_64 hm0 (jkI 1 at_67 rfl (jgo 72 at_68 (jtI at_72 #[SI P1_, SJ PJ2_, SS, SR A3_, SI G4_, SI G5_, SR A3_, SI 1, SU, SU, SU, SU, SU, SU, SU, SU, SU, SU, SU, SU, SU] rfl (own_mono (tl5 hw fm1_ fm2_ fm3_ fm4_ fm5_ fm6_ fm7_ fm8_ fm9_ fm10_ fm11_ fm12_ fm13_))))))))
set_option maxRecDepth 65536 in
set_option maxHeartbeats 40000000 in
theorem tl40 {D0_ D1_ D2_ : Slot} {A4_ : Addr} {D4_ D5_ : Slot} {A7_ : Addr} {G7_ G8_ : Int32} {A10_ A11_ A12_ A13_ : Addr} {P14_ : Int32} {A15_ : Addr} {KK16_ : ClassId} {A17_ A18_ A19_ A20_ A21_ : Addr} {KK22_ : ClassId} {A23_ : Addr} (hw : HW a0 Z) (fm1_ : Exa Z h0 A10_ cC8) (fm2_ : Fld Z h0 A10_ cC8 "exclusive" cC10 (.null)) (fm3_ : Fld Z h0 A10_ cC8 "others" cC11 (VR A13_)) (fm4_ : Exa Z h0 A13_ cC21) (fm5_ : Fld Z h0 A13_ cC22 "modCount" "I" (VI P14_)) (fm6_ : Fld Z h0 A13_ cC21 "size" "I" (VI 1)) (fm7_ : Fld Z h0 A13_ cC21 "elementData" cC1 (VR A15_)) (fm8_ : Arv Z h0 A15_ KK16_ (.object "java/lang/Object") 2 [VR A17_, .null] (.null)) (fm9_ : Exa Z h0 A17_ cC18) (fm10_ : Fld Z h0 A17_ cC18 "granted" "Z" (VI 1)) (fm11_ : Fld Z h0 A17_ cC18 "transaction" cC10 (VR A11_)) (fm12_ : A11_ ≠ A12_) (fm13_ : Exa Z h0 A15_ cC1) (fm14_ : own_Mir Z cC1 A18_) (fm15_ : Sta Z Z.heap cC34 "EMPTY" cC9 (VR A19_)) (fm16_ : Fld Z h0 A17_ cC18 "mode" cC3 (VR A4_)) (fm17_ : Sta Z Z.heap cC2 "SHARED" cC3 (VR A4_)) (fm18_ : A15_ ≠ A13_) (fm19_ : A10_ ≠ A15_) (fm20_ : A10_ ≠ A13_) (fm21_ : Sta Z Z.heap cC34 "EMPTY_LIST" cC36 (VR A20_)) (fm22_ : Exa Z h0 A20_ cC0) (fm23_ : Fld Z h0 A20_ cC0 "elements" cC1 (VR A21_)) (fm24_ : A20_ ≠ A15_) (fm25_ : A20_ ≠ A13_) (fm26_ : Arv Z h0 A21_ KK22_ (.object "java/lang/Object") 0 [] (.null)) (fm27_ : A21_ ≠ A15_) (fm28_ : A21_ ≠ A13_) (fm29_ : Fld Z h0 A10_ cC8 "key" cC9 (VR A23_)) (fm30_ : Fld Z h0 A10_ cC8 "version" cC1 (.null)) (fm31_ : Z.heap.size ≤ A13_) (fm32_ : Z.heap.size ≤ A15_) (fm33_ : Z.heap.size ≤ A10_) :
    own_T l Z a0 A h0 15 77 190 #[D0_, D1_, D2_, SR A4_, D4_, D5_, SR A7_, SI G7_, SI G8_, SR A10_, SR A11_, SR A12_, SI 1, SI 0, SN, SI 0, SU, SU, SU, SU, SU] := by
  exact jLI at_190 rfl (jieqY 214 at_192 (by decide) (jkI 0 at_214 rfl (jtI at_215 #[D0_, D1_, D2_, SR A4_, D4_, D5_, SR A7_, SI G7_, SI G8_, SR A10_, SR A11_, SR A12_, SI 1, SI 0, SN, SI 0, SI 0, SU, SU, SU, SU] rfl (own_mono (tl12 hw fm1_ fm2_ fm3_ fm4_ fm5_ fm6_ fm7_ fm8_ fm9_ fm10_ fm11_ fm12_ fm13_ fm14_ fm15_ fm16_ fm17_ fm31_ fm18_ fm32_ fm19_ fm20_ fm21_ fm22_ fm23_ fm24_ fm25_ fm26_ fm27_ fm28_ fm33_ fm29_ fm30_)))))
set_option maxRecDepth 65536 in
set_option maxHeartbeats 40000000 in
theorem tl39 {D0_ D1_ D2_ : Slot} {A4_ : Addr} {G4_ G5_ : Int32} {A7_ : Addr} {G7_ G8_ : Int32} {A10_ A11_ A12_ A13_ : Addr} {P14_ : Int32} {A15_ : Addr} {KK16_ : ClassId} {A17_ A18_ A19_ A20_ A21_ : Addr} {KK22_ : ClassId} {A23_ : Addr} (hw : HW a0 Z) (fm1_ : G4_ = (0 : Int32)) (fm2_ : Exa Z h0 A10_ cC8) (fm3_ : Fld Z h0 A10_ cC8 "exclusive" cC10 (.null)) (fm4_ : Fld Z h0 A10_ cC8 "others" cC11 (VR A13_)) (fm5_ : Exa Z h0 A13_ cC21) (fm6_ : Fld Z h0 A13_ cC22 "modCount" "I" (VI P14_)) (fm7_ : Fld Z h0 A13_ cC21 "size" "I" (VI 1)) (fm8_ : Fld Z h0 A13_ cC21 "elementData" cC1 (VR A15_)) (fm9_ : Arv Z h0 A15_ KK16_ (.object "java/lang/Object") 2 [VR A17_, .null] (.null)) (fm10_ : Exa Z h0 A17_ cC18) (fm11_ : Fld Z h0 A17_ cC18 "granted" "Z" (VI 1)) (fm12_ : Fld Z h0 A17_ cC18 "transaction" cC10 (VR A11_)) (fm13_ : A11_ ≠ A12_) (fm14_ : Exa Z h0 A15_ cC1) (fm15_ : own_Mir Z cC1 A18_) (fm16_ : Sta Z Z.heap cC34 "EMPTY" cC9 (VR A19_)) (fm17_ : Fld Z h0 A17_ cC18 "mode" cC3 (VR A4_)) (fm18_ : Sta Z Z.heap cC2 "SHARED" cC3 (VR A4_)) (fm19_ : A15_ ≠ A13_) (fm20_ : A10_ ≠ A15_) (fm21_ : A10_ ≠ A13_) (fm22_ : Sta Z Z.heap cC34 "EMPTY_LIST" cC36 (VR A20_)) (fm23_ : Exa Z h0 A20_ cC0) (fm24_ : Fld Z h0 A20_ cC0 "elements" cC1 (VR A21_)) (fm25_ : A20_ ≠ A15_) (fm26_ : A20_ ≠ A13_) (fm27_ : Arv Z h0 A21_ KK22_ (.object "java/lang/Object") 0 [] (.null)) (fm28_ : A21_ ≠ A15_) (fm29_ : A21_ ≠ A13_) (fm30_ : Fld Z h0 A10_ cC8 "key" cC9 (VR A23_)) (fm31_ : Fld Z h0 A10_ cC8 "version" cC1 (.null)) (fm32_ : Z.heap.size ≤ A13_) (fm33_ : Z.heap.size ≤ A15_) (fm34_ : Z.heap.size ≤ A10_) :
    own_T l Z a0 A h0 15 77 173 #[D0_, D1_, D2_, SR A4_, SI G4_, SI G5_, SR A7_, SI G7_, SI G8_, SR A10_, SR A11_, SR A12_, SI 1, SI 0, SN, SU, SU, SU, SU, SU, SU] := by
  exact jLI at_173 rfl (jieqY 187 at_175 fm1_ (jkI 0 at_187 rfl (jtI at_188 #[D0_, D1_, D2_, SR A4_, SI G4_, SI G5_, SR A7_, SI G7_, SI G8_, SR A10_, SR A11_, SR A12_, SI 1, SI 0, SN, SI 0, SU, SU, SU, SU, SU] rfl (own_mono (tl40 hw fm2_ fm3_ fm4_ fm5_ fm6_ fm7_ fm8_ fm9_ fm10_ fm11_ fm12_ fm13_ fm14_ fm15_ fm16_ fm17_ fm18_ fm19_ fm20_ fm21_ fm22_ fm23_ fm24_ fm25_ fm26_ fm27_ fm28_ fm29_ fm30_ fm31_ fm32_ fm33_ fm34_)))))
set_option maxRecDepth 65536 in
set_option maxHeartbeats 40000000 in
theorem rm61_2 {a1 a2 : Addr} (hw : HW a0 Z) (f3 : Sta Z Z.heap cC2 "SHARED" cC3 (VR a1)) (f4 : a2 ≠ a1) :
    own_M l Z h0 yM58 c61 2 (some .boolean) 0 0 0 0 #[VR a1, VR a2] (fun v h => v = some (VI 0) ∧ h0 = h) := by
  refine own_ent hw (plainFor_of_name pn61) #[SR a1, SR a2] (fun _ => rfl) fun Q k => ?_
  exact jLa d61_0 rfl (jgS 451 f3 d61_1 (jac 7 d61_4 (decide_eq_true rfl) (jLa d61_7 rfl (jgS 451 f3 d61_8 (jac 18 d61_11 (own_dn f4) (jkI 0 d61_18 rfl (jrZ d61_19 (k _ _ ⟨rfl, rfl⟩))))))))
set_option maxRecDepth 65536 in
set_option maxHeartbeats 40000000 in
theorem rm64_1 {p1 p2 : Int32} (hw : HW a0 Z) (f3 : ¬ (p1 < p2)) :
    own_M l Z h0 yM62 c64 2 (some .int) 0 0 0 0 #[VI p1, VI p2] (fun v h => v = some (VI p1) ∧ h0 = h) := by
  refine own_ent hw (Jvm.Free.JP.mathPlain rfl (by decide +kernel)) #[SI p1, SI p2] (fun _ => rfl) fun Q k => ?_
  exact jLi d64_0 rfl (jLi d64_1 rfl (jcltN d64_2 f3 (jLi d64_5 rfl (jgo 10 d64_6 (jrI d64_10 (k _ _ ⟨rfl, rfl⟩))))))
set_option maxRecDepth 65536 in
set_option maxHeartbeats 40000000 in
theorem rm63_1 {a1 : Addr} {p2 : Int32} {a3 : Addr} {k5 : ClassId} {p19 : Int32} (hw : HW a0 Z) (f4 : Fld Z h0 a1 cC21 "elementData" cC1 (VR a3)) (f6 : Arv Z h0 a3 k5 (.object "java/lang/Object") 0 [] (.null)) (f7 : Sta Z Z.heap cC21 "DEFAULTCAPACITY_EMPTY_ELEMENTDATA" cC1 (VR a3)) (f8 : ¬ ((10 : Int32) < p2)) (f11 : Exa Z h0 a1 cC21) (f14 : Z.heap.size ≤ a1) (f17 : Fld Z h0 a1 cC21 "size" "I" (VI 0)) (f20 : Fld Z h0 a1 cC22 "modCount" "I" (VI p19)) :
    own_M l Z h0 yM63 c63 4 (some (.array (.object "java/lang/Object"))) 1 1 10 14 #[VR a1, VI p2] (fun v h => ∃ (b10 : Addr) (k10 : ClassId), v = some (VR b10) ∧ Keep h0 h [a1] ∧ h0.size ≤ b10 ∧ Ovr Z k10 cC24 ∧ Fld Z h a1 cC21 "elementData" cC1 (VR b10) ∧ Exa Z h a1 cC21 ∧ Fld Z h a1 cC21 "size" "I" (VI 0) ∧ Fld Z h a1 cC22 "modCount" "I" (VI p19) ∧ Arv Z h b10 k10 (.object "java/lang/Object") 10 [.null, .null, .null, .null, .null, .null, .null, .null, .null, .null] (.null) ∧ Exa Z h b10 cC1) := by
  refine own_ent hw (plainFor_of_name pn15) #[SR a1, SI p2, SU, SU] (fun _ => rfl) fun Q k => ?_
  refine jLa d63_0 rfl (jgF 130 f4 d63_1 (jal f6 d63_4 (jti d63_5 #[SR a1, SI p2, SI 0, SU] rfl (jLi d63_6 rfl (jigtN d63_7 (by decide) (jLa d63_10 rfl (jgF 130 f4 d63_11 (jgS 129 f7 d63_14 (jac 45 d63_17 (decide_eq_true rfl) (jLa d63_45 rfl (jkB 10 d63_46 rfl (jLi d63_48 rfl (jcS 1 462 463 285 464 (rm64_1 hw f8) pd20 d63_49 rfl ?_)))))))))))))
  rintro _ _ ⟨rfl, rfl⟩
  refine jnewA 157 158 10 [.null, .null, .null, .null, .null, .null, .null, .null, .null, .null] cC1 d63_52 rfl fun b10 h10 k10 g10 u10 E10 V10 EA10 Ov10 => ?_
  have F12 := f11.ext E10
  refine jdX d63_55 rfl rfl (jpFR 130 131 109 (f4.ext E10) F12 f14 d63_56 fun h15 W15 F15 => ?_)
  exact jrB d63_59 (k _ _ ⟨b10, k10, rfl, (((Keep.refl h0 [a1]).ext E10).wr W15 (mI 0)), g10, Ov10, F15, (F12.wr W15), (fS (f17.ext E10) W15 (lA hw 142) (lA hw 131)), (fS (f20.ext E10) W15 (lA hw 128) (lA hw 131)), (V10.other W15 (own_lo f4.lt g10).symm), (EA10.wr W15)⟩)
set_option maxRecDepth 65536 in
set_option maxHeartbeats 40000000 in
theorem rm62_1 {a1 a4 : Addr} {k6 : ClassId} {p10 : Int32} (hw : HW a0 Z) (f2 : Fld Z h0 a1 cC21 "size" "I" (VI 0)) (f3 : Exa Z h0 a1 cC21) (f5 : Fld Z h0 a1 cC21 "elementData" cC1 (VR a4)) (f7 : Arv Z h0 a4 k6 (.object "java/lang/Object") 0 [] (.null)) (f8 : Sta Z Z.heap cC21 "DEFAULTCAPACITY_EMPTY_ELEMENTDATA" cC1 (VR a4)) (f9 : Z.heap.size ≤ a1) (f11 : Fld Z h0 a1 cC22 "modCount" "I" (VI p10)) :
    own_M l Z h0 yM64 c62 1 (some (.array (.object "java/lang/Object"))) 2 1 10 29 #[VR a1] (fun v h => ∃ (b10_12 : Addr) (k10_12 : ClassId), v = some (VR b10_12) ∧ Keep h0 h [a1] ∧ h0.size ≤ b10_12 ∧ Ovr Z k10_12 cC24 ∧ Exa Z h a1 cC21 ∧ Fld Z h a1 cC21 "elementData" cC1 (VR b10_12) ∧ Fld Z h a1 cC21 "size" "I" (VI 0) ∧ Fld Z h a1 cC22 "modCount" "I" (VI p10) ∧ Arv Z h b10_12 k10_12 (.object "java/lang/Object") 10 [.null, .null, .null, .null, .null, .null, .null, .null, .null, .null] (.null) ∧ Exa Z h b10_12 cC1) := by
  refine own_ent hw (plainFor_of_name pn15) #[SR a1] (fun _ => rfl) fun Q k => ?_
  refine jLa d62_0 rfl (jLa d62_1 rfl (jgF 141 f2 d62_2 (jkI 1 d62_5 rfl (jiadd d62_6 (jcP 0 457 109 459 458 110 461 (rm63_1 hw f5 f7 f8 (by decide) f3 f9 f2 f11) f3 pd35 d62_7 rfl ?_)))))
  rintro _ h12 ⟨b10_12, k10_12, rfl, K12, lob10_12, ovk10_12, o0_12, o1_12, o2_12, o3_12, o4_12, o5_12⟩
  exact jrB d62_10 (k _ _ ⟨b10_12, k10_12, rfl, ((Keep.refl h0 [a1]).trans K12 (allS (mI 0) all0)), lob10_12, ovk10_12, o1_12, o0_12, o2_12, o3_12, o4_12, o5_12⟩)
set_option maxRecDepth 65536 in
set_option maxHeartbeats 40000000 in
theorem rm23_3 {a1 a2 a3 : Addr} {k4 : ClassId} {p10 : Int32} (hw : HW a0 Z) (f5 : Arv Z h0 a3 k4 (.object "java/lang/Object") 0 [] (.null)) (f6 : Exa Z h0 a1 cC21) (f7 : Fld Z h0 a1 cC21 "size" "I" (VI 0)) (f8 : Fld Z h0 a1 cC21 "elementData" cC1 (VR a3)) (f9 : Sta Z Z.heap cC21 "DEFAULTCAPACITY_EMPTY_ELEMENTDATA" cC1 (VR a3)) (f11 : Fld Z h0 a1 cC22 "modCount" "I" (VI p10)) (f12 : Z.heap.size ≤ a1) (f15 : Exa Z h0 a2 cC15) :
    own_M l Z h0 yM20 c23 4 none 3 1 10 41 #[VR a1, VR a2, VR a3, VI 0] (fun v h => ∃ (b10_12_13 : Addr) (k10_12_13 : ClassId), v = none ∧ Keep h0 h [a1] ∧ h0.size ≤ b10_12_13 ∧ Ovr Z k10_12_13 cC24 ∧ Exa Z h a1 cC21 ∧ Fld Z h a1 cC21 "elementData" cC1 (VR b10_12_13) ∧ Fld Z h a1 cC21 "size" "I" (VI 1) ∧ Fld Z h a1 cC22 "modCount" "I" (VI p10) ∧ Arv Z h b10_12_13 k10_12_13 (.object "java/lang/Object") 10 [VR a2, .null, .null, .null, .null, .null, .null, .null, .null, .null] (.null) ∧ Exa Z h b10_12_13 cC1) := by
  refine own_ent hw (plainFor_of_name pn15) #[SR a1, SR a2, SR a3, SI 0] (fun _ => rfl) fun Q k => ?_
  refine own_z fun Z0 => ?_
  refine jLi d23_0 rfl (jLa d23_1 rfl (jal f5 d23_2 (jcneN d23_3 (by decide) (jLa d23_6 rfl (jcP 0 452 109 454 453 110 456 (rm62_1 hw f7 f6 f8 f5 f9 f12 f11) f6 pd23 d23_7 rfl ?_)))))
  rintro _ h13 ⟨b10_12_13, k10_12_13, rfl, K13, lob10_12_13, ovk10_12_13, o0_13, o1_13, o2_13, o3_13, o4_13, o5_13⟩
  refine jta d23_10 #[SR a1, SR a2, SR b10_12_13, SI 0] rfl (jLa d23_11 rfl (jLi d23_12 rfl (jLa d23_13 rfl (jsR o4_13 ovk10_12_13 (Ins.of_exa (f15.keep K13) (WW hw 465)) (by decide) (Nat.le_trans Z0 lob10_12_13) 0 [VR a2, .null, .null, .null, .null, .null, .null, .null, .null, .null] d23_14 rfl rfl fun h17 W17 V17 => ?_))))
  have F18 := o0_13.wr W17
  have v19 := own_lo f6.lt lob10_12_13
  refine jLa d23_15 rfl (jLi d23_16 rfl (jkI 1 d23_17 rfl (jiadd d23_18 (jpFI 141 142 109 (fW o2_13 W17 v19) F18 f12 d23_19 fun h21 W21 F21 => ?_))))
  exact jrV d23_22 (k _ _ ⟨b10_12_13, k10_12_13, rfl, ((((Keep.refl h0 [a1]).trans K13 (allS (mI 0) all0)).wr W17 (Or.inr lob10_12_13)).wr W21 (mI 0)), lob10_12_13, ovk10_12_13, (F18.wr W21), (fS (fW o1_13 W17 v19) W21 (lA hw 131) (lA hw 142)), F21, (fS (fW o3_13 W17 v19) W21 (lA hw 128) (lA hw 142)), (V17.other W21 v19.symm), ((o5_13.wr W17).wr W21)⟩)
set_option maxRecDepth 65536 in
set_option maxHeartbeats 40000000 in
theorem rm22_3 {a1 a2 : Addr} {p3 : Int32} {a8 : Addr} {k14 : ClassId} (hw : HW a0 Z) (f4 : Fld Z h0 a1 cC22 "modCount" "I" (VI p3)) (f5 : Exa Z h0 a1 cC21) (f6 : Z.heap.size ≤ a1) (f9 : Fld Z h0 a1 cC21 "elementData" cC1 (VR a8)) (f12 : Fld Z h0 a1 cC21 "size" "I" (VI 0)) (f15 : Arv Z h0 a8 k14 (.object "java/lang/Object") 0 [] (.null)) (f16 : a8 ≠ a1) (f18 : Sta Z Z.heap cC21 "DEFAULTCAPACITY_EMPTY_ELEMENTDATA" cC1 (VR a8)) (f19 : Exa Z h0 a2 cC15) :
    own_M l Z h0 yM21 c22 2 (some .boolean) 4 1 10 56 #[VR a1, VR a2] (fun v h => ∃ (b10_12_13_21 : Addr) (k10_12_13_21 : ClassId), v = some (VI 1) ∧ Keep h0 h [a1] ∧ h0.size ≤ b10_12_13_21 ∧ Ovr Z k10_12_13_21 cC24 ∧ Exa Z h a1 cC21 ∧ Fld Z h a1 cC21 "elementData" cC1 (VR b10_12_13_21) ∧ Fld Z h a1 cC21 "size" "I" (VI 1) ∧ Fld Z h a1 cC22 "modCount" "I" (VI (p3 + (1 : Int32))) ∧ Arv Z h b10_12_13_21 k10_12_13_21 (.object "java/lang/Object") 10 [VR a2, .null, .null, .null, .null, .null, .null, .null, .null, .null] (.null) ∧ Exa Z h b10_12_13_21 cC1) := by
  refine own_ent hw (plainFor_of_name pn15) #[SR a1, SR a2] (fun _ => rfl) fun Q k => ?_
  refine jLa d22_0 rfl (jdU d22_1 rfl (jgV 167 168 f4 d22_2 (jkI 1 d22_5 rfl (jiadd d22_6 (jpVI 167 128 109 168 f4 f5 f6 d22_7 fun h7 W7 F7 => ?_)))))
  have F10 := f5.wr W7
  have F11 := fS f9 W7 (lA hw 131) (lA hw 128)
  have F13 := fS f12 W7 (lA hw 142) (lA hw 128)
  refine jLa d22_10 rfl (jLa d22_11 rfl (jLa d22_12 rfl (jgF 130 F11 d22_13 (jLa d22_16 rfl (jgF 141 F13 d22_17 (jcP 0 169 109 171 170 110 173 (rm23_3 hw (f15.other W7 f16) F10 F13 F11 f18 F7 f6 (f19.wr W7)) F10 pd13 d22_20 rfl ?_))))))
  rintro _ h21 ⟨b10_12_13_21, k10_12_13_21, rfl, K21, lob10_12_13_21, ovk10_12_13_21, o0_21, o1_21, o2_21, o3_21, o4_21, o5_21⟩
  exact jkI 1 d22_23 rfl (jrZ d22_24 (k _ _ ⟨b10_12_13_21, k10_12_13_21, rfl, (((Keep.refl h0 [a1]).wr W7 (mI 0)).trans K21 (allS (mI 0) all0)), (Nat.le_trans ((Nat.le_of_eq (Wr.size W7).symm)) lob10_12_13_21), ovk10_12_13_21, o0_21, o1_21, o2_21, o3_21, o4_21, o5_21⟩))
set_option maxRecDepth 65536 in
set_option maxHeartbeats 40000000 in
theorem rm14_3 {a1 a2 a7 a13 a22 : Addr} {k25 : ClassId} {a26 a34 a38 a45 a48 : Addr} {k56 : ClassId} (hw : HW a0 Z) (f8 : Sta Z Z.heap cC21 "DEFAULTCAPACITY_EMPTY_ELEMENTDATA" cC1 (VR a7)) (f10 : Fld Z h0 a1 cC8 "exclusive" cC10 (.null)) (f14 : Fld Z h0 a1 cC8 "others" cC11 (VR a13)) (f16 : Exa Z h0 a13 cC21) (f18 : Fld Z h0 a13 cC21 "size" "I" (VI 1)) (f23 : Fld Z h0 a13 cC21 "elementData" cC1 (VR a22)) (f27 : Arv Z h0 a22 k25 (.object "java/lang/Object") 2 [VR a26, .null] (.null)) (f31 : Exa Z h0 a26 cC18) (f33 : a26 ≠ a2) (f35 : Fld Z h0 a26 cC18 "transaction" cC10 (VR a34)) (f39 : Fld Z h0 a2 cC18 "transaction" cC10 (VR a38)) (f42 : a34 ≠ a38) (f43 : Fld Z h0 a26 cC18 "granted" "Z" (VI 1)) (f46 : Fld Z h0 a26 cC18 "mode" cC3 (VR a45)) (f49 : Fld Z h0 a2 cC18 "mode" cC3 (VR a48)) (f51 : Exa Z h0 a45 cC2) (f53 : Sta Z Z.heap cC2 "SHARED" cC3 (VR a45)) (f54 : a48 ≠ a45) (f57 : Arv Z h0 a7 k56 (.object "java/lang/Object") 0 [] (.null)) (f60 : Exa Z h0 a34 cC15) :
    own_M l Z h0 yM15 c14 6 (some (.object cC23)) 5 2 13 69 #[VR a1, VR a2] (fun v h => ∃ (b3 b10_12_13_21_62 : Addr) (k10_12_13_21_62 : ClassId), v = some (VR b3) ∧ Keep h0 h [] ∧ h0.size ≤ b3 ∧ h0.size ≤ b10_12_13_21_62 ∧ b3 ≠ b10_12_13_21_62 ∧ Ovr Z k10_12_13_21_62 cC24 ∧ Exa Z h b3 cC21 ∧ Fld Z h b3 cC21 "elementData" cC1 (VR b10_12_13_21_62) ∧ Fld Z h b3 cC21 "size" "I" (VI 1) ∧ Fld Z h b3 cC22 "modCount" "I" (VI 1) ∧ Arv Z h b10_12_13_21_62 k10_12_13_21_62 (.object "java/lang/Object") 10 [VR a34, .null, .null, .null, .null, .null, .null, .null, .null, .null] (.null) ∧ Exa Z h b10_12_13_21_62 cC1) := by
  refine own_ent hw (plainFor_of_name pn2) #[SR a1, SR a2, SU, SU, SU, SU] (fun _ => rfl) fun Q k => ?_
  refine jnew 108 109 110 d14_0 fun b3 h3 g3 u3 E3 A3 D3 => ?_
  refine jdU d14_3 rfl (jcI 1 111 112 110 113 (rm15_1 hw A3 (dI D3 (lA hw 128)) u3 (dN D3 (lA hw 131)) (dI D3 (lA hw 142)) f8) pd0 d14_4 rfl ?_)
  rintro _ h9 ⟨rfl, K9, o0_9, o1_9, o2_9, o3_9⟩
  have v11 := own_lo f10.lt g3
  have F15 := (f14.ext E3).keep K9 (ninS v11 nin0)
  have F17 := (f16.ext E3).keep K9
  have v19 := own_lo f16.lt g3
  have F20 := (f18.ext E3).keep K9 (ninS v19 nin0)
  refine jta d14_7 #[SR a1, SR a2, SR b3, SU, SU, SU] rfl (jLa d14_8 rfl (jgF 66 ((f10.ext E3).keep K9 (ninS v11 nin0)) d14_9 (jzY 26 d14_12 (jkI 1 d14_26 rfl (jti d14_27 #[SR a1, SR a2, SR b3, SI 1, SU, SU] rfl (jkI 0 d14_28 rfl (jtI d14_29 #[SR a1, SR a2, SR b3, SI 1, SI 0, SU] rfl (jLa d14_31 rfl (jgF 68 F15 d14_32 (jzN d14_35 (jLI d14_38 rfl (jLa d14_40 rfl (jgF 68 F15 d14_41 (jcF 1 420 421 422 423 424 425 426 139 110 427 (rm56_1 hw F20) F17 pd27 d14_44 rfl ?_))))))))))))))
  rintro _ _ ⟨rfl, rfl⟩
  refine jcgeN d14_49 (by decide) (jLa d14_52 rfl (jgF 68 F15 d14_53 (jLI d14_56 rfl (jcF 0 428 364 365 429 430 431 432 139 110 433 (rm57_1 hw F20 F17 ((f23.ext E3).keep K9 (ninS v19 nin0)) ((f27.ext E3).keep K9 (ninS (own_lo f27.lt g3) nin0))) F17 pd29 d14_58 rfl ?_))))
  rintro _ _ ⟨rfl, rfl⟩
  have v36 := own_lo f31.lt g3
  have F37 := (f35.ext E3).keep K9 (ninS v36 nin0)
  have v40 := own_lo f39.lt g3
  refine jcY 75 (Ins.self ((f31.ext E3).keep K9)) d14_63 (jtA d14_66 #[SR a1, SR a2, SR b3, SI 1, SI 0, SR a26] rfl (jLA d14_68 rfl (jLa d14_70 rfl (jac 79 d14_71 (own_dn f33) (jLA d14_79 rfl (jgR 236 F37 d14_81 (jLa d14_84 rfl (jgR 236 ((f39.ext E3).keep K9 (ninS v40 nin0)) d14_85 (jac 91 d14_88 (own_dn f42) (jLA d14_91 rfl (jgR 175 ((f43.ext E3).keep K9 (ninS v36 nin0)) d14_93 (jineY 103 d14_96 (by decide) (jLA d14_103 rfl (jgR 147 ((f46.ext E3).keep K9 (ninS v36 nin0)) d14_105 (jLa d14_108 rfl ?_)))))))))))))))
  refine jgR 147 ((f49.ext E3).keep K9 (ninS v40 nin0)) d14_109 (jcV 0 446 447 449 448 1 450 (nfS hw 449) (rm61_2 hw f53 f54) ((f51.ext E3).keep K9) pd32 d14_112 rfl ?_)
  rintro _ _ ⟨rfl, rfl⟩
  have v58 := own_lo f57.lt g3
  refine jineN d14_115 (by decide) (jLa d14_118 rfl (jLA d14_119 rfl (jgR 236 F37 d14_121 (jcF 0 159 160 161 162 163 164 165 139 110 166 (rm22_3 hw o1_9 o0_9 u3 o2_9 o3_9 ((f57.ext E3).keep K9 (ninS v58 nin0)) v58 f8 ((f60.ext E3).keep K9)) o0_9 pd14 d14_124 rfl ?_))))
  rintro _ h62 ⟨b10_12_13_21_62, k10_12_13_21_62, rfl, K62, lob10_12_13_21_62, ovk10_12_13_21_62, o0_62, o1_62, o2_62, o3_62, o4_62, o5_62⟩
  have F63 := F15.keep K62 (ninS v11 nin0)
  refine jpO d14_129 rfl (jiC d14_130 #[SR a1, SR a2, SR b3, SI 1, SI 1, SR a26] rfl rfl (jgo 31 d14_133 (jLa d14_31 rfl (jgF 68 F63 d14_32 (jzN d14_35 (jLI d14_38 rfl (jLa d14_40 rfl (jgF 68 F63 d14_41 (jcF 1 420 421 422 423 424 425 426 139 110 427 (rm56_1 hw (F20.keep K62 (ninS v19 nin0))) (F17.keep K62) pd27 d14_44 rfl ?_)))))))))
  rintro _ _ ⟨rfl, rfl⟩
  exact jcgeY 136 d14_49 (by decide) (jLa d14_136 rfl (jrA d14_137 (k _ _ ⟨b3, b10_12_13_21_62, k10_12_13_21_62, rfl, ((((Keep.refl h0 []).ext E3).trans K9 (allS (Or.inr g3) all0)).trans K62 (allS (Or.inr g3) all0)), g3, (Nat.le_trans (Nat.le_trans E3.1 K9.1) lob10_12_13_21_62), (own_lo A3.lt (Nat.le_trans K9.1 lob10_12_13_21_62)), ovk10_12_13_21_62, o0_62, o1_62, o2_62, o3_62, o4_62, o5_62⟩)))
set_option maxRecDepth 65536 in
set_option maxHeartbeats 40000000 in
theorem rm13_3 {a1 a2 a4 a7 a11 : Addr} {k13 : ClassId} {a14 a18 a20 a24 a26 : Addr} {k31 : ClassId} (hw : HW a0 Z) (f3 : Exa Z h0 a1 cC8) (f5 : Sta Z Z.heap cC21 "DEFAULTCAPACITY_EMPTY_ELEMENTDATA" cC1 (VR a4)) (f6 : Fld Z h0 a1 cC8 "exclusive" cC10 (.null)) (f8 : Fld Z h0 a1 cC8 "others" cC11 (VR a7)) (f9 : Exa Z h0 a7 cC21) (f10 : Fld Z h0 a7 cC21 "size" "I" (VI 1)) (f12 : Fld Z h0 a7 cC21 "elementData" cC1 (VR a11)) (f15 : Arv Z h0 a11 k13 (.object "java/lang/Object") 2 [VR a14, .null] (.null)) (f16 : Exa Z h0 a14 cC18) (f17 : a14 ≠ a2) (f19 : Fld Z h0 a14 cC18 "transaction" cC10 (VR a18)) (f21 : Fld Z h0 a2 cC18 "transaction" cC10 (VR a20)) (f22 : a18 ≠ a20) (f23 : Fld Z h0 a14 cC18 "granted" "Z" (VI 1)) (f25 : Fld Z h0 a14 cC18 "mode" cC3 (VR a24)) (f27 : Fld Z h0 a2 cC18 "mode" cC3 (VR a26)) (f28 : Exa Z h0 a24 cC2) (f29 : Sta Z Z.heap cC2 "SHARED" cC3 (VR a24)) (f30 : a26 ≠ a24) (f32 : Arv Z h0 a4 k31 (.object "java/lang/Object") 0 [] (.null)) (f33 : Exa Z h0 a18 cC15) :
    own_M l Z h0 yM17 c13 2 (some .boolean) 6 2 13 86 #[VR a1, VR a2] (fun v h => v = some (VI 0) ∧ Keep h0 h []) := by
  refine own_ent hw (plainFor_of_name pn2) #[SR a1, SR a2] (fun _ => rfl) fun Q k => ?_
  refine jLa d13_0 rfl (jLa d13_1 rfl (jcV 0 103 104 106 105 5 107 (nfS hw 106) (rm14_3 hw f5 f6 f8 f9 f10 f12 f15 f16 f17 f19 f21 f22 f23 f25 f27 f28 f29 f30 f32 f33) f3 pd9 d13_2 rfl ?_))
  rintro _ h34 ⟨b3_34, b10_12_13_21_62_34, k10_12_13_21_62_34, rfl, K34, lob3_34, lob10_12_13_21_62_34, neb3b10_12_13_21_62_34, ovk10_12_13_21_62_34, o0_34, o1_34, o2_34, o3_34, o4_34, o5_34⟩
  refine jcF 0 132 133 134 135 136 137 138 139 110 140 (rm18_2 hw o2_34) o0_34 pd5 d13_5 rfl ?_
  rintro _ _ ⟨rfl, rfl⟩
  exact jrZ d13_10 (k _ _ ⟨rfl, ((Keep.refl h0 []).trans K34 all0)⟩)
set_option maxRecDepth 65536 in
set_option maxHeartbeats 40000000 in
theorem rm9_4 {a1 a2 a3 a14 : Addr} {p19 : Int32} {a24 : Addr} {k27 : ClassId} {a28 a35 a49 a53 : Addr} {k70 : ClassId} (hw : HW a0 Z) (f10 : Exa Z h0 a1 cC8) (f12 : Fld Z h0 a1 cC8 "exclusive" cC10 (.null)) (f15 : Fld Z h0 a1 cC8 "others" cC11 (VR a14)) (f17 : Exa Z h0 a14 cC21) (f20 : Fld Z h0 a14 cC22 "modCount" "I" (VI p19)) (f22 : Fld Z h0 a14 cC21 "size" "I" (VI 1)) (f25 : Fld Z h0 a14 cC21 "elementData" cC1 (VR a24)) (f29 : Arv Z h0 a24 k27 (.object "java/lang/Object") 2 [VR a28, .null] (.null)) (f31 : Exa Z h0 a28 cC18) (f33 : Fld Z h0 a28 cC18 "granted" "Z" (VI 1)) (f36 : Fld Z h0 a28 cC18 "transaction" cC10 (VR a35)) (f38 : a35 ≠ a2) (f50 : Sta Z Z.heap cC2 "SHARED" cC3 (VR a49)) (f51 : a3 ≠ a49) (f54 : Sta Z Z.heap cC21 "DEFAULTCAPACITY_EMPTY_ELEMENTDATA" cC1 (VR a53)) (f66 : Fld Z h0 a28 cC18 "mode" cC3 (VR a49)) (f68 : Exa Z h0 a49 cC2) (f71 : Arv Z h0 a53 k70 (.object "java/lang/Object") 0 [] (.null)) (f74 : Exa Z h0 a35 cC15) (f85 : a24 ≠ a14) (f86 : Ovr Z k27 cC24) (f88 : Exa Z h0 a24 cC1) (f90 : Z.heap.size ≤ a14) (f91 : Z.heap.size ≤ a24) (f94 : a1 ≠ a24) (f95 : a1 ≠ a14) :
    own_M l Z h0 yM24 c9 4 (some (.object cC18)) 7 4 22 99 #[VR a1, VR a2, VR a3] (fun v h => ∃ (b4 : Addr), v = some (VR b4) ∧ Keep h0 h [a14, a24] ∧ h0.size ≤ b4 ∧ Exa Z h a14 cC21 ∧ Fld Z h a14 cC21 "size" "I" (VI 2) ∧ Fld Z h a14 cC22 "modCount" "I" (VI (p19 + (1 : Int32))) ∧ Fld Z h a14 cC21 "elementData" cC1 (VR a24) ∧ Exa Z h a24 cC1 ∧ Arv Z h a24 k27 (.object "java/lang/Object") 2 [VR a28, VR b4] (.null) ∧ Exa Z h b4 cC18 ∧ Fld Z h b4 cC18 "row" cC19 (VR a1) ∧ Fld Z h b4 cC18 "transaction" cC10 (VR a2) ∧ Fld Z h b4 cC18 "mode" cC3 (VR a3) ∧ Fld Z h b4 cC18 "first" "Z" (VI 1) ∧ Fld Z h b4 cC18 "granted" "Z" (VI 0)) := by
  refine own_ent hw (plainFor_of_name pn2) #[SR a1, SR a2, SR a3, SU] (fun _ => rfl) fun Q k => ?_
  refine jnew 75 76 77 d9_0 fun b4 h4 g4 u4 E4 A4 D4 => ?_
  have F11 := f10.ext E4
  have F13 := f12.ext E4
  have F16 := f15.ext E4
  have F18 := f17.ext E4
  have F21 := f20.ext E4
  have F23 := f22.ext E4
  have F26 := f25.ext E4
  have F30 := f29.ext E4
  have F32 := f31.ext E4
  have F34 := f33.ext E4
  have F37 := f36.ext E4
  refine jdU d9_3 rfl (jLa d9_4 rfl (jLa d9_5 rfl (jLa d9_6 rfl (jLa d9_7 rfl (jLa d9_8 rfl (jcP 5 78 4 80 79 5 81 (rm10_2 hw F13 F11 F16 F18 F21 F23 F26 F30 F32 F34 F37 f38) F11 pd7 d9_9 rfl ?_))))))
  rintro _ h39 ⟨rfl, K39⟩
  refine jineN d9_12 (by decide) (jkI 1 d9_15 rfl (jgo 20 d9_16 (jcR 1 86 87 77 88 (rm12_1 hw (A4.keep K39) ((dN D4 (lB hw 91)).keep K39 nin0) u4 ((dN D4 (lB hw 93)).keep K39 nin0) ((dN D4 (lB hw 95)).keep K39 nin0) ((dZ D4 (lB hw 97)).keep K39 nin0) ((dZ D4 (lA hw 176)).keep K39 nin0)) pd8 d9_20 rfl ?_)))
  rintro _ h46 ⟨rfl, K46, o0_46, o1_46, o2_46, o3_46, o4_46, o5_46⟩
  have v47 := own_lo f10.lt g4
  have F48 := (F13.keep K39 nin0).keep K46 (ninS v47 nin0)
  have F52 := (F11.keep K39).keep K46
  have F55 := (F16.keep K39 nin0).keep K46 (ninS v47 nin0)
  have F56 := (F18.keep K39).keep K46
  have v57 := own_lo f17.lt g4
  have F58 := (F23.keep K39 nin0).keep K46 (ninS v57 nin0)
  have F59 := (F26.keep K39 nin0).keep K46 (ninS v57 nin0)
  have v60 := own_lo f29.lt g4
  have F61 := (F30.keep K39 nin0).keep K46 (ninS v60 nin0)
  have v63 := own_lo f31.lt g4
  refine jta d9_23 #[SR a1, SR a2, SR a3, SR b4] rfl (jLa d9_24 rfl (jgF 66 F48 d9_25 (jLa d9_28 rfl (jac 32 d9_29 (decide_eq_false nofun) (jLa d9_32 rfl (jgS 98 f50 d9_33 (jac 55 d9_36 (own_dn f51) (jLa d9_55 rfl (jLa d9_56 rfl (jcP 0 99 4 101 100 5 102 (rm13_3 hw F52 f54 F48 F55 F56 F58 F59 F61 ((F32.keep K39).keep K46) v63 ((F37.keep K39 nin0).keep K46 (ninS v63 nin0)) o2_46 f38 ((F34.keep K39 nin0).keep K46 (ninS v63 nin0)) (((f66.ext E4).keep K39 nin0).keep K46 (ninS v63 nin0)) o3_46 (((f68.ext E4).keep K39).keep K46) f50 f51 (((f71.ext E4).keep K39 nin0).keep K46 (ninS (own_lo f71.lt g4) nin0)) (((f74.ext E4).keep K39).keep K46)) F52 pd10 d9_57 rfl ?_))))))))))
  rintro _ h76 ⟨rfl, K76⟩
  have F77 := F52.keep K76
  have F78 := F55.keep K76 nin0
  refine jieqY 71 d9_60 (by decide) (jLa d9_71 rfl (jcP 0 150 4 152 151 5 153 (rm20_2 hw F78) F77 pd12 d9_72 rfl ?_))
  rintro _ _ ⟨rfl, rfl⟩
  have F80 := F56.keep K76
  have F87 := o0_46.keep K76
  refine jLa d9_75 rfl (jcF 0 159 160 161 162 163 164 165 139 110 166 (rm22_2 hw (((F21.keep K39 nin0).keep K46 (ninS v57 nin0)).keep K76 nin0) F80 f90 (F59.keep K76 nin0) (F58.keep K76 nin0) (F61.keep K76 nin0) f85 f91 f86 F87 ((((f88.ext E4).keep K39).keep K46).keep K76)) F80 pd14 d9_76 rfl ?_)
  rintro _ h92 ⟨rfl, K92, o0_92, o1_92, o2_92, o3_92, o4_92, o5_92⟩
  refine jpO d9_81 rfl (jLa d9_82 rfl (jcP 0 177 4 179 178 5 180 (rm24_4 hw (F78.keep K92 (ninS f95 (ninS f94 nin0))) o0_92 o1_92) (F77.keep K92) pd0 d9_83 rfl ?_))
  rintro _ _ ⟨rfl, rfl⟩
  exact jLa d9_86 rfl (jrA d9_87 (k _ _ ⟨b4, rfl, ((((((Keep.refl h0 [a14, a24]).ext E4).trans K39 all0).trans K46 (allS (Or.inr g4) all0)).trans K76 all0).trans K92 (allS (mI 0) (allS (mI 1) all0))), g4, o0_92, o1_92, o2_92, o3_92, o4_92, o5_92, (F87.keep K92), ((o1_46.keep K76 nin0).keep K92 (ninS v57.symm (ninS v60.symm nin0))), ((o2_46.keep K76 nin0).keep K92 (ninS v57.symm (ninS v60.symm nin0))), ((o3_46.keep K76 nin0).keep K92 (ninS v57.symm (ninS v60.symm nin0))), ((o4_46.keep K76 nin0).keep K92 (ninS v57.symm (ninS v60.symm nin0))), ((o5_46.keep K76 nin0).keep K92 (ninS v57.symm (ninS v60.symm nin0)))⟩))
set_option maxRecDepth 65536 in
set_option maxHeartbeats 40000000 in
theorem rm11_6 {a1 a2 a3 : Addr} {p6 : Int32} {a13 : Addr} {k16 : ClassId} {a17 a18 a29 : Addr} (hw : HW a0 Z) (f4 : Fld Z h0 a1 cC8 "others" cC11 (VR a3)) (f5 : Exa Z h0 a3 cC21) (f7 : Fld Z h0 a3 cC22 "modCount" "I" (VI p6)) (f9 : Fld Z h0 a3 cC21 "size" "I" (VI 2)) (f14 : Fld Z h0 a3 cC21 "elementData" cC1 (VR a13)) (f19 : Arv Z h0 a13 k16 (.object "java/lang/Object") 2 [VR a17, VR a18] (.null)) (f24 : Exa Z h0 a17 cC18) (f26 : Fld Z h0 a17 cC18 "granted" "Z" (VI 1)) (f30 : Fld Z h0 a17 cC18 "transaction" cC10 (VR a29)) (f32 : a29 ≠ a2) (f40 : Exa Z h0 a18 cC18) (f42 : Fld Z h0 a18 cC18 "granted" "Z" (VI 0)) :
    own_M l Z h0 yM9 c11 5 (some (.object cC18)) 3 1 4 38 #[VR a1, VR a2] (fun v h => v = some (.null) ∧ Keep h0 h []) := by
  refine own_ent hw (plainFor_of_name pn2) #[SR a1, SR a2, SU, SU, SU] (fun _ => rfl) fun Q k => ?_
  refine own_z fun Z0 => ?_
  refine jkN d11_0 (jnta d11_1 #[SR a1, SR a2, SN, SU, SU] rfl (jLa d11_2 rfl (jgF 68 f4 d11_3 (jzN d11_6 (jLa d11_9 rfl (jgF 68 f4 d11_10 (jcF 0 186 187 188 189 190 191 192 139 110 193 (rm26_1 hw f7) f5 pd18 d11_13 rfl ?_)))))))
  rintro _ h8 ⟨b2_8, rfl, K8, lob2_8, o0_8, o1_8, o2_8, o3_8, o4_8⟩
  have F10 := f9.keep K8 nin0
  refine jta d11_18 #[SR a1, SR a2, SN, SR b2_8, SU] rfl (jLa d11_19 rfl (jcF 0 209 210 211 212 213 214 215 216 196 217 (rm28_3 hw o4_8 o1_8 F10) o0_8 pd5 d11_20 rfl ?_))
  rintro _ _ ⟨rfl, rfl⟩
  have F12 := f7.keep K8 nin0
  have F15 := f14.keep K8 nin0
  have F20 := f19.keep K8 nin0
  have v21 := own_lo f19.lt lob2_8
  have u22 := Nat.le_trans Z0 lob2_8
  refine jieqN d11_25 (by decide) (jLa d11_28 rfl (jcF 0 221 222 223 224 225 226 227 216 196 228 (rm29_2 hw o0_8 o1_8 F12 o3_8 o4_8 F10 F15 F20 u22 o2_8 v21) o0_8 pd19 d11_29 rfl ?_))
  rintro _ h23 ⟨rfl, K23, o0_23, o1_23, o2_23, o3_23, o4_23⟩
  have v27 := own_lo f24.lt lob2_8
  have v33 := own_lo f5.lt lob2_8
  have F34 := F10.keep K23 (ninS v33 nin0)
  refine jcY 75 (Ins.self ((f24.keep K8).keep K23)) d11_34 (jtA d11_37 #[SR a1, SR a2, SN, SR b2_8, SR a17] rfl (jLA d11_39 rfl (jgR 175 ((f26.keep K8 nin0).keep K23 (ninS v27 nin0)) d11_41 (jieqN d11_44 (by decide) (jLA d11_47 rfl (jgR 236 ((f30.keep K8 nin0).keep K23 (ninS v27 nin0)) d11_49 (jLa d11_52 rfl (jac 70 d11_53 (own_dn f32) (jgo 19 d11_70 (jLa d11_19 rfl (jcF 0 209 210 211 212 213 214 215 216 196 217 (rm28_4 hw o3_23 o1_23 F34) o0_23 pd5 d11_20 rfl ?_)))))))))))
  rintro _ _ ⟨rfl, rfl⟩
  refine jieqN d11_25 (by decide) (jLa d11_28 rfl (jcF 0 221 222 223 224 225 226 227 216 196 228 (rm29_3 hw o0_23 o1_23 (F12.keep K23 (ninS v33 nin0)) o2_23 o3_23 F34 (F15.keep K23 (ninS v33 nin0)) (F20.keep K23 (ninS v21 nin0)) u22 o4_23 v21) o0_23 pd19 d11_29 rfl ?_))
  rintro _ h39 ⟨rfl, K39, o0_39, o1_39, o2_39, o3_39, o4_39⟩
  have v43 := own_lo f40.lt lob2_8
  refine jcY 75 (Ins.self (((f40.keep K8).keep K23).keep K39)) d11_34 (jtA d11_37 #[SR a1, SR a2, SN, SR b2_8, SR a18] rfl (jLA d11_39 rfl (jgR 175 (((f42.keep K8 nin0).keep K23 (ninS v43 nin0)).keep K39 (ninS v43 nin0)) d11_41 (jieqY 70 d11_44 (by decide) (jgo 19 d11_70 (jLa d11_19 rfl (jcF 0 209 210 211 212 213 214 215 216 196 217 (rm28_5 hw o3_39 o1_39 (F34.keep K39 (ninS v33 nin0))) o0_39 pd5 d11_20 rfl ?_)))))))
  rintro _ _ ⟨rfl, rfl⟩
  exact jieqY 73 d11_25 (by decide) (jnLa d11_73 rfl (jrAn d11_74 (k _ _ ⟨rfl, ((((Keep.refl h0 []).trans K8 all0).trans K23 (allS (Or.inr lob2_8) all0)).trans K39 (allS (Or.inr lob2_8) all0))⟩)))
set_option maxRecDepth 65536 in
set_option maxHeartbeats 40000000 in
theorem rm37_2 {p1 p2 : Int32} (hw : HW a0 Z) (f3 : ¬ (p2 < p1)) :
    own_M l Z h0 yM31 c37 2 (some .int) 0 0 0 0 #[VI p1, VI p2] (fun v h => v = some (VI p1) ∧ h0 = h) := by
  refine own_ent hw (Jvm.Free.JP.mathPlain rfl (by decide +kernel)) #[SI p1, SI p2] (fun _ => rfl) fun Q k => ?_
  exact jLi d37_0 rfl (jLi d37_1 rfl (jcgtN d37_2 f3 (jLi d37_5 rfl (jgo 10 d37_6 (jrI d37_10 (k _ _ ⟨rfl, rfl⟩))))))
set_option maxRecDepth 65536 in
set_option maxHeartbeats 40000000 in
theorem rm36_2 {a1 a2 : Addr} {k5 : ClassId} {a6 a7 : Addr} (hw : HW a0 Z) (f3 : own_Mir Z cC1 a2) (f8 : Arv Z h0 a1 k5 (.object "java/lang/Object") 2 [VR a6, VR a7] (.null)) (f11 : Exa Z h0 a7 cC18) (f13 : Exa Z h0 a6 cC18) :
    own_M l Z h0 yM32 c36 4 (some (.array (.object "java/lang/Object"))) 1 1 2 18 #[VR a1, VI 2, VR a2] (fun v h => ∃ (b4 : Addr) (k4 : ClassId), v = some (VR b4) ∧ Keep h0 h [] ∧ h0.size ≤ b4 ∧ Ovr Z k4 cC24 ∧ Arv Z h b4 k4 (.object "java/lang/Object") 2 [VR a6, VR a7] (.null) ∧ Exa Z h b4 cC1) := by
  refine own_ent hw (plainFor_of_name pn35) #[SR a1, SI 2, SR a2, SU] (fun _ => rfl) fun Q k => ?_
  refine jLa d36_0 rfl (jld 281 f3 d36_1 (jac 6 d36_3 (decide_eq_true rfl) (jLi d36_6 rfl (jnewA 282 158 2 [.null, .null] cC1 d36_7 rfl fun b4 h4 k4 g4 u4 E4 V4 EA4 Ov4 => ?_))))
  have F9 := f8.ext E4
  refine jgo 24 d36_10 (jta d36_24 #[SR a1, SI 2, SR a2, SR b4] rfl (jLa d36_25 rfl (jkI 0 d36_26 rfl (jLa d36_27 rfl (jkI 0 d36_28 rfl (jLa d36_29 rfl (jal F9 d36_30 (jLi d36_31 rfl (jcS 4 283 284 285 286 (rm37_2 hw (by decide)) pd20 d36_32 rfl ?_)))))))))
  rintro _ _ ⟨rfl, rfl⟩
  refine jcp [VR a6, VR a7] [VR a6, VR a7] 0 287 290 288 289 F9 V4 ⟨stV V4 Ov4 (Ins.of_exa (f13.ext E4) (WW hw 174)), ⟨stV V4 Ov4 (Ins.of_exa (f11.ext E4) (WW hw 174)), trivial⟩⟩ u4 d36_35 rfl fun h15 K15 V15 => ?_
  exact jLa d36_38 rfl (jrB d36_39 (k _ _ ⟨b4, k4, rfl, (((Keep.refl h0 []).ext E4).trans K15 (allS (Or.inr g4) all0)), g4, Ov4, V15, (EA4.keep K15)⟩))
set_option maxRecDepth 65536 in
set_option maxHeartbeats 40000000 in
theorem rm35_2 {a1 a3 : Addr} {k5 : ClassId} {a6 a7 : Addr} (hw : HW a0 Z) (f2 : Exa Z h0 a1 cC1) (f4 : own_Mir Z cC1 a3) (f8 : Arv Z h0 a1 k5 (.object "java/lang/Object") 2 [VR a6, VR a7] (.null)) (f9 : Exa Z h0 a7 cC18) (f10 : Exa Z h0 a6 cC18) :
    own_M l Z h0 yM33 c35 2 (some (.array (.object "java/lang/Object"))) 2 1 2 33 #[VR a1, VI 2] (fun v h => ∃ (b4_11 : Addr) (k4_11 : ClassId), v = some (VR b4_11) ∧ Keep h0 h [] ∧ h0.size ≤ b4_11 ∧ Ovr Z k4_11 cC24 ∧ Arv Z h b4_11 k4_11 (.object "java/lang/Object") 2 [VR a6, VR a7] (.null) ∧ Exa Z h b4_11 cC1) := by
  refine own_ent hw (plainFor_of_name pn35) #[SR a1, SI 2] (fun _ => rfl) fun Q k => ?_
  refine jLa d35_0 rfl (jLi d35_1 rfl (jLa d35_2 rfl (jgC 2 272 273 275 274 276 f2 f4 (nfT hw 253) d35_3 (jcS 0 278 279 270 280 (rm36_2 hw f4 f8 f9 f10) pd21 d35_6 rfl ?_))))
  rintro _ h11 ⟨b4_11, k4_11, rfl, K11, lob4_11, ovk4_11, o0_11, o1_11⟩
  exact jrB d35_9 (k _ _ ⟨b4_11, k4_11, rfl, ((Keep.refl h0 []).trans K11 all0), lob4_11, ovk4_11, o0_11, o1_11⟩)
set_option maxRecDepth 65536 in
set_option maxHeartbeats 40000000 in
theorem rm34_2 {a1 a2 a6 : Addr} {k8 : ClassId} {a9 a10 : Addr} (hw : HW a0 Z) (f3 : Fld Z h0 a1 cC21 "elementData" cC1 (VR a2)) (f4 : Fld Z h0 a1 cC21 "size" "I" (VI 2)) (f5 : Exa Z h0 a2 cC1) (f7 : own_Mir Z cC1 a6) (f11 : Arv Z h0 a2 k8 (.object "java/lang/Object") 2 [VR a9, VR a10] (.null)) (f12 : Exa Z h0 a10 cC18) (f13 : Exa Z h0 a9 cC18) :
    own_M l Z h0 yM34 c34 1 (some (.array (.object "java/lang/Object"))) 3 1 2 46 #[VR a1] (fun v h => ∃ (b4_11_14 : Addr) (k4_11_14 : ClassId), v = some (VR b4_11_14) ∧ Keep h0 h [] ∧ h0.size ≤ b4_11_14 ∧ Ovr Z k4_11_14 cC24 ∧ Arv Z h b4_11_14 k4_11_14 (.object "java/lang/Object") 2 [VR a9, VR a10] (.null) ∧ Exa Z h b4_11_14 cC1) := by
  refine own_ent hw (plainFor_of_name pn15) #[SR a1] (fun _ => rfl) fun Q k => ?_
  refine jLa d34_0 rfl (jgF 130 f3 d34_1 (jLa d34_4 rfl (jgF 141 f4 d34_5 (jcS 0 268 269 270 271 (rm35_2 hw f5 f7 f11 f12 f13) pd22 d34_8 rfl ?_))))
  rintro _ h14 ⟨b4_11_14, k4_11_14, rfl, K14, lob4_11_14, ovk4_11_14, o0_14, o1_14⟩
  exact jrB d34_11 (k _ _ ⟨b4_11_14, k4_11_14, rfl, ((Keep.refl h0 []).trans K14 all0), lob4_11_14, ovk4_11_14, o0_14, o1_14⟩)
set_option maxRecDepth 65536 in
set_option maxHeartbeats 40000000 in
theorem rm65_1 {a1 a2 a3 : Addr} (hw : HW a0 Z) (f6 : Exa Z h0 a1 cC33) (f7 : Fld Z h0 a1 cC33 "e0" cC9 (.null)) (f8 : Z.heap.size ≤ a1) (f12 : Fld Z h0 a1 cC33 "e1" cC9 (.null)) :
    own_M l Z h0 yM65 c65 3 none 4 0 0 48 #[VR a1, VR a2, VR a3] (fun v h => v = none ∧ Keep h0 h [a1] ∧ Exa Z h a1 cC33 ∧ Fld Z h a1 cC33 "e0" cC9 (VR a2) ∧ Fld Z h a1 cC33 "e1" cC9 (VR a3)) := by
  refine own_ent hw (plainFor_of_name pn39) #[SR a1, SR a2, SR a3] (fun _ => rfl) fun Q k => ?_
  refine jLa d65_0 rfl (jcI 0 301 302 305 306 (rm40_1 hw) pd0 d65_1 rfl ?_)
  rintro _ _ ⟨rfl, rfl⟩
  refine jLa d65_4 rfl (jLa d65_5 rfl (jcS 1 315 316 317 318 (rm42_1 hw) pd24 d65_6 rfl ?_))
  rintro _ _ ⟨rfl, rfl⟩
  refine jpLR 319 320 295 f7 f6 f8 d65_9 fun h9 W9 F9 => ?_
  refine jLa d65_12 rfl (jLa d65_13 rfl (jcS 1 315 316 317 318 (rm42_1 hw) pd24 d65_14 rfl ?_))
  rintro _ _ ⟨rfl, rfl⟩
  have F11 := f6.wr W9
  refine jpLR 322 323 295 (fS f12 W9 (lB hw 323) (lB hw 320)) F11 f8 d65_17 fun h14 W14 F14 => ?_
  exact jrV d65_20 (k _ _ ⟨rfl, (((Keep.refl h0 [a1]).wr W9 (mI 0)).wr W14 (mI 0)), (F11.wr W14), (fS F9 W14 (lB hw 320) (lB hw 323)), F14⟩)
set_option maxRecDepth 65536 in
set_option maxHeartbeats 40000000 in
theorem rm38_2 {a1 : Addr} {k2 : ClassId} {a3 a4 : Addr} (hw : HW a0 Z) (f5 : Arv Z h0 a1 k2 (.object "java/lang/Object") 2 [VR a3, VR a4] (.null)) :
    own_M l Z h0 yM39 c38 2 (some (.object cC23)) 5 1 2 63 #[VR a1] (fun v h => ∃ (b6 : Addr), v = some (VR b6) ∧ Keep h0 h [] ∧ h0.size ≤ b6 ∧ Exa Z h b6 cC33 ∧ Fld Z h b6 cC33 "e0" cC9 (VR a3) ∧ Fld Z h b6 cC33 "e1" cC9 (VR a4)) := by
  refine own_ent hw (plainFor_of_name pn32) #[SR a1, SU] (fun _ => rfl) fun Q k => ?_
  refine jLa d38_0 rfl (jal f5 d38_1 (jtw 45 d38_2 (by decide) rfl (jnew 294 295 296 d38_45 fun b6 h6 g6 u6 E6 A6 D6 => ?_)))
  have F9 := f5.ext E6
  refine jdU d38_48 rfl (jLa d38_49 rfl (jkI 0 d38_50 rfl (jaa F9 (by decide) (VR a3) rfl d38_51 (jLa d38_52 rfl (jkI 1 d38_53 rfl (jaa F9 (by decide) (VR a4) rfl d38_54 (jcI 1 466 467 296 468 (rm65_1 hw A6 (dN D6 (lB hw 320)) u6 (dN D6 (lB hw 323))) pd36 d38_55 rfl ?_)))))))
  rintro _ h10 ⟨rfl, K10, o0_10, o1_10, o2_10⟩
  exact jrA d38_58 (k _ _ ⟨b6, rfl, (((Keep.refl h0 []).ext E6).trans K10 (allS (Or.inr g6) all0)), g6, o0_10, o1_10, o2_10⟩)
set_option maxRecDepth 65536 in
set_option maxHeartbeats 40000000 in
theorem rm33_3 {a1 a5 a8 : Addr} {k10 : ClassId} {a11 a12 : Addr} (hw : HW a0 Z) (f2 : Exa Z h0 a1 cC21) (f3 : Fld Z h0 a1 cC21 "size" "I" (VI 2)) (f6 : Fld Z h0 a1 cC21 "elementData" cC1 (VR a5)) (f7 : Exa Z h0 a5 cC1) (f9 : own_Mir Z cC1 a8) (f13 : Arv Z h0 a5 k10 (.object "java/lang/Object") 2 [VR a11, VR a12] (.null)) (f14 : Exa Z h0 a12 cC18) (f15 : Exa Z h0 a11 cC18) :
    own_M l Z h0 yM40 c33 2 (some (.object cC23)) 6 2 4 76 #[VR a1] (fun v h => ∃ (b6_17 : Addr), v = some (VR b6_17) ∧ Keep h0 h [] ∧ h0.size ≤ b6_17 ∧ Exa Z h b6_17 cC33 ∧ Fld Z h b6_17 cC33 "e0" cC9 (VR a11) ∧ Fld Z h b6_17 cC33 "e1" cC9 (VR a12)) := by
  refine own_ent hw (plainFor_of_name pn33) #[SR a1, SU] (fun _ => rfl) fun Q k => ?_
  refine jLa d33_0 rfl (jiN 249 f2 (own_NSno (WW hw 250) (own_ordI (WW hw 295)) (NS.step (WW hw 250) (NS.step (WW hw 251) (NS.step (WW hw 252) (own_NSroot (WW hw 253) (own_ordI (WW hw 295)) (by decide)) (by decide)) (by decide)) (by decide)) (by decide)) d33_1 (jineN d33_4 (by decide) (jLa d33_7 rfl (jiN 254 f2 (own_NSno (WW hw 250) (own_ordS (y := yM30) (WW hw 396)) (NS.step (WW hw 250) (NS.step (WW hw 251) (NS.step (WW hw 252) (own_NSroot (WW hw 253) (own_ordS (y := yM30) (WW hw 396)) (by decide)) (by decide)) (by decide)) (by decide)) (by decide)) d33_8 (jieqY 31 d33_11 (by decide) (jLa d33_31 rfl (jcF 0 255 256 257 258 136 137 138 259 110 140 (rm18_3 hw f3) f2 pd5 d33_32 rfl ?_)))))))
  rintro _ _ ⟨rfl, rfl⟩
  refine jieqY 44 d33_37 (by decide) (jLa d33_44 rfl (jcF 0 260 261 262 263 264 265 266 259 110 267 (rm34_2 hw f6 f3 f7 f9 f13 f14 f15) f2 pd23 d33_45 rfl ?_))
  rintro _ h16 ⟨b4_11_14_16, k4_11_14_16, rfl, K16, lob4_11_14_16, ovk4_11_14_16, o0_16, o1_16⟩
  refine jcS 0 291 292 243 293 (rm38_2 hw o0_16) pd25 d33_50 rfl ?_
  rintro _ h17 ⟨b6_17, rfl, K17, lob6_17, o0_17, o1_17, o2_17⟩
  exact jrA d33_53 (k _ _ ⟨b6_17, rfl, (((Keep.refl h0 []).trans K16 all0).trans K17 all0), (Nat.le_trans K16.1 lob6_17), o0_17, o1_17, o2_17⟩)
set_option maxRecDepth 65536 in
set_option maxHeartbeats 40000000 in
theorem rm32_3 {a1 a4 a7 : Addr} {k9 : ClassId} {a10 a11 : Addr} (hw : HW a0 Z) (f2 : Exa Z h0 a1 cC21) (f3 : Fld Z h0 a1 cC21 "size" "I" (VI 2)) (f5 : Fld Z h0 a1 cC21 "elementData" cC1 (VR a4)) (f6 : Exa Z h0 a4 cC1) (f8 : own_Mir Z cC1 a7) (f12 : Arv Z h0 a4 k9 (.object "java/lang/Object") 2 [VR a10, VR a11] (.null)) (f13 : Exa Z h0 a11 cC18) (f14 : Exa Z h0 a10 cC18) :
    own_M l Z h0 yM41 c32 1 (some (.object cC23)) 7 2 4 89 #[VR a1] (fun v h => ∃ (b6_17_15 : Addr), v = some (VR b6_17_15) ∧ Keep h0 h [] ∧ h0.size ≤ b6_17_15 ∧ Exa Z h b6_17_15 cC33 ∧ Fld Z h b6_17_15 cC33 "e0" cC9 (VR a10) ∧ Fld Z h b6_17_15 cC33 "e1" cC9 (VR a11)) := by
  refine own_ent hw (plainFor_of_name pn32) #[SR a1] (fun _ => rfl) fun Q k => ?_
  refine jLa d32_0 rfl (jcS 0 245 246 247 248 (rm33_3 hw f2 f3 f5 f6 f8 f12 f13 f14) pd26 d32_1 rfl ?_)
  rintro _ h15 ⟨b6_17_15, rfl, K15, lob6_17_15, o0_15, o1_15, o2_15⟩
  exact jrA d32_4 (k _ _ ⟨b6_17_15, rfl, ((Keep.refl h0 []).trans K15 all0), lob6_17_15, o0_15, o1_15, o2_15⟩)
set_option maxRecDepth 65536 in
set_option maxHeartbeats 40000000 in
theorem rm44_2 {a1 a2 a4 : Addr} (hw : HW a0 Z) (f3 : Fld Z h0 a1 cC33 "e1" cC9 (VR a2)) (f5 : Sta Z Z.heap cC34 "EMPTY" cC9 (VR a4)) (f6 : a2 ≠ a4) :
    own_M l Z h0 yM42 c44 1 (some .int) 0 0 0 0 #[VR a1] (fun v h => v = some (VI 2) ∧ h0 = h) := by
  refine own_ent hw (plainFor_of_name pn39) #[SR a1] (fun _ => rfl) fun Q k => ?_
  exact jLa d44_0 rfl (jgF 322 f3 d44_1 (jgM 321 f5 d44_4 (jac 10 d44_7 (own_dn f6) (jkI 2 d44_10 rfl (jgo 15 d44_11 (jrI d44_15 (k _ _ ⟨rfl, rfl⟩)))))))
set_option maxRecDepth 65536 in
set_option maxHeartbeats 40000000 in
theorem rm43_3 {a1 a9 a12 : Addr} (hw : HW a0 Z) (f7 : Exa Z h0 a1 cC33) (f10 : Fld Z h0 a1 cC33 "e1" cC9 (VR a9)) (f13 : Sta Z Z.heap cC34 "EMPTY" cC9 (VR a12)) (f14 : a9 ≠ a12) :
    own_M l Z h0 yM44 c43 1 (some (.object cC27)) 2 1 4 27 #[VR a1] (fun v h => ∃ (b2 : Addr), v = some (VR b2) ∧ Keep h0 h [] ∧ h0.size ≤ b2 ∧ Exa Z h b2 cC35 ∧ Fld Z h b2 cC35 "list" cC11 (VR a1) ∧ Fld Z h b2 cC35 "size" "I" (VI 2) ∧ Fld Z h b2 cC35 "cursor" "I" (VI 0) ∧ Fld Z h b2 cC35 "isListIterator" "Z" (VI 0)) := by
  refine own_ent hw (plainFor_of_name pn40) #[SR a1] (fun _ => rfl) fun Q k => ?_
  refine jnew 330 331 332 d43_0 fun b2 h2 g2 u2 E2 A2 D2 => ?_
  refine jdU d43_3 rfl (jLa d43_4 rfl (jLa d43_5 rfl (jcU 3 333 334 335 336 337 296 338 (rm44_2 hw (f10.ext E2) f13 f14) (f7.ext E2) pd27 d43_6 rfl ?_)))
  rintro _ _ ⟨rfl, rfl⟩
  refine jcI 1 339 340 332 342 (rm45_1 hw A2 (dN D2 (lB hw 345)) u2 (dI D2 (lB hw 347)) (dI D2 (lA hw 349)) (dZ D2 (lB hw 351))) pd28 d43_9 rfl ?_
  rintro _ h16 ⟨rfl, K16, o0_16, o1_16, o2_16, o3_16, o4_16⟩
  exact jrA d43_12 (k _ _ ⟨b2, rfl, (((Keep.refl h0 []).ext E2).trans K16 (allS (Or.inr g2) all0)), g2, o0_16, o1_16, o2_16, o3_16, o4_16⟩)
set_option maxRecDepth 65536 in
set_option maxHeartbeats 40000000 in
theorem rm46_4 {a1 : Addr} (hw : HW a0 Z) (f2 : Fld Z h0 a1 cC35 "cursor" "I" (VI 0)) (f3 : Fld Z h0 a1 cC35 "size" "I" (VI 2)) :
    own_M l Z h0 yM45 c46 1 (some .boolean) 0 0 0 0 #[VR a1] (fun v h => v = some (VI 1) ∧ h0 = h) := by
  refine own_ent hw (plainFor_of_name pn45) #[SR a1] (fun _ => rfl) fun Q k => ?_
  exact jLa d46_0 rfl (jgF 348 f2 d46_1 (jLa d46_4 rfl (jgF 346 f3 d46_5 (jceqN d46_8 (by decide) (jkI 1 d46_11 rfl (jgo 16 d46_12 (jrZ d46_16 (k _ _ ⟨rfl, rfl⟩))))))))
set_option maxRecDepth 65536 in
set_option maxHeartbeats 40000000 in
theorem rm47_2 {a1 a3 a6 : Addr} (hw : HW a0 Z) (f2 : Fld Z h0 a1 cC35 "cursor" "I" (VI 0)) (f4 : Fld Z h0 a1 cC35 "list" cC11 (VR a3)) (f5 : Exa Z h0 a3 cC33) (f7 : Fld Z h0 a3 cC33 "e0" cC9 (VR a6)) (f9 : Exa Z h0 a1 cC35) (f10 : Z.heap.size ≤ a1) (f14 : Fld Z h0 a1 cC35 "size" "I" (VI 2)) (f16 : Fld Z h0 a1 cC35 "isListIterator" "Z" (VI 0)) :
    own_MW l Z h0 yM47 c47 3 (some (.object cC24)) [((0 : Nat), (24 : Nat), (25 : Nat), (30 : Nat))] 1 0 0 13 #[VR a1] (fun v h => v = some (VR a6) ∧ Keep h0 h [a1] ∧ Fld Z h a1 cC35 "cursor" "I" (VI 1) ∧ Fld Z h a1 cC35 "list" cC11 (VR a3) ∧ Exa Z h a1 cC35 ∧ Fld Z h a1 cC35 "size" "I" (VI 2) ∧ Fld Z h a1 cC35 "isListIterator" "Z" (VI 0)) := by
  refine own_entW hw (plainFor_of_name pn45) #[SR a1, SU, SU] (fun _ => rfl) fun Q k => ?_
  refine jLa d47_0 rfl (jgF 348 f2 d47_1 (jti d47_4 #[SR a1, SI 0, SU] rfl (jLa d47_5 rfl (jgF 344 f4 d47_6 (jLi d47_9 rfl (jcF 0 363 364 365 366 367 368 369 328 296 370 (rm48_1 hw (by decide) f7) f5 pd29 d47_10 rfl ?_))))))
  rintro _ _ ⟨rfl, rfl⟩
  refine jta d47_15 #[SR a1, SI 0, SR a6] rfl (jLa d47_16 rfl (jLi d47_17 rfl (jkI 1 d47_18 rfl (jiadd d47_19 (jpFI 348 349 331 f2 f9 f10 d47_20 fun h11 W11 F11 => ?_)))))
  exact jLa d47_23 rfl (jrA d47_24 (k _ _ ⟨rfl, ((Keep.refl h0 [a1]).wr W11 (mI 0)), F11, (fS f4 W11 (lB hw 345) (lA hw 349)), (f9.wr W11), (fS f14 W11 (lB hw 347) (lA hw 349)), (fS f16 W11 (lB hw 351) (lA hw 349))⟩))
set_option maxRecDepth 65536 in
set_option maxHeartbeats 40000000 in
theorem rm46_5 {a1 : Addr} (hw : HW a0 Z) (f2 : Fld Z h0 a1 cC35 "cursor" "I" (VI 1)) (f3 : Fld Z h0 a1 cC35 "size" "I" (VI 2)) :
    own_M l Z h0 yM45 c46 1 (some .boolean) 0 0 0 0 #[VR a1] (fun v h => v = some (VI 1) ∧ h0 = h) := by
  refine own_ent hw (plainFor_of_name pn45) #[SR a1] (fun _ => rfl) fun Q k => ?_
  exact jLa d46_0 rfl (jgF 348 f2 d46_1 (jLa d46_4 rfl (jgF 346 f3 d46_5 (jceqN d46_8 (by decide) (jkI 1 d46_11 rfl (jgo 16 d46_12 (jrZ d46_16 (k _ _ ⟨rfl, rfl⟩))))))))
set_option maxRecDepth 65536 in
set_option maxHeartbeats 40000000 in
theorem rm48_2 {a1 : Addr} {p2 : Int32} {a5 a7 : Addr} (hw : HW a0 Z) (f3 : ¬ (p2 = (0 : Int32))) (f4 : p2 = (1 : Int32)) (f6 : Fld Z h0 a1 cC33 "e1" cC9 (VR a5)) (f8 : Sta Z Z.heap cC34 "EMPTY" cC9 (VR a7)) (f9 : a5 ≠ a7) :
    own_M l Z h0 yM46 c48 2 (some (.object cC24)) 0 0 0 0 #[VR a1, VI p2] (fun v h => v = some (VR a5) ∧ h0 = h) := by
  refine own_ent hw (plainFor_of_name pn39) #[SR a1, SI p2] (fun _ => rfl) fun Q k => ?_
  exact jLi d48_0 rfl (jineY 9 d48_1 f3 (jLi d48_9 rfl (jkI 1 d48_10 rfl (jcneN d48_11 f4 (jLa d48_14 rfl (jgF 322 f6 d48_15 (jgM 321 f8 d48_18 (jac 24 d48_21 (own_dn f9) (jLa d48_24 rfl (jgF 322 f6 d48_25 (jrA d48_28 (k _ _ ⟨rfl, rfl⟩))))))))))))
set_option maxRecDepth 65536 in
set_option maxHeartbeats 40000000 in
theorem rm47_3 {a1 a3 a6 a8 : Addr} (hw : HW a0 Z) (f2 : Fld Z h0 a1 cC35 "cursor" "I" (VI 1)) (f4 : Fld Z h0 a1 cC35 "list" cC11 (VR a3)) (f5 : Exa Z h0 a3 cC33) (f7 : Fld Z h0 a3 cC33 "e1" cC9 (VR a6)) (f9 : Sta Z Z.heap cC34 "EMPTY" cC9 (VR a8)) (f10 : a6 ≠ a8) (f12 : Exa Z h0 a1 cC35) (f13 : Z.heap.size ≤ a1) (f17 : Fld Z h0 a1 cC35 "size" "I" (VI 2)) (f19 : Fld Z h0 a1 cC35 "isListIterator" "Z" (VI 0)) :
    own_MW l Z h0 yM47 c47 3 (some (.object cC24)) [((0 : Nat), (24 : Nat), (25 : Nat), (30 : Nat))] 1 0 0 13 #[VR a1] (fun v h => v = some (VR a6) ∧ Keep h0 h [a1] ∧ Fld Z h a1 cC35 "cursor" "I" (VI 2) ∧ Fld Z h a1 cC35 "list" cC11 (VR a3) ∧ Exa Z h a1 cC35 ∧ Fld Z h a1 cC35 "size" "I" (VI 2) ∧ Fld Z h a1 cC35 "isListIterator" "Z" (VI 0)) := by
  refine own_entW hw (plainFor_of_name pn45) #[SR a1, SU, SU] (fun _ => rfl) fun Q k => ?_
  refine jLa d47_0 rfl (jgF 348 f2 d47_1 (jti d47_4 #[SR a1, SI 1, SU] rfl (jLa d47_5 rfl (jgF 344 f4 d47_6 (jLi d47_9 rfl (jcF 0 363 364 365 366 367 368 369 328 296 370 (rm48_2 hw (by decide) (by decide) f7 f9 f10) f5 pd29 d47_10 rfl ?_))))))
  rintro _ _ ⟨rfl, rfl⟩
  refine jta d47_15 #[SR a1, SI 1, SR a6] rfl (jLa d47_16 rfl (jLi d47_17 rfl (jkI 1 d47_18 rfl (jiadd d47_19 (jpFI 348 349 331 f2 f12 f13 d47_20 fun h14 W14 F14 => ?_)))))
  exact jLa d47_23 rfl (jrA d47_24 (k _ _ ⟨rfl, ((Keep.refl h0 [a1]).wr W14 (mI 0)), F14, (fS f4 W14 (lB hw 345) (lA hw 349)), (f12.wr W14), (fS f17 W14 (lB hw 347) (lA hw 349)), (fS f19 W14 (lB hw 351) (lA hw 349))⟩))
set_option maxRecDepth 65536 in
set_option maxHeartbeats 40000000 in
theorem rm56_2 {a1 : Addr} (hw : HW a0 Z) (f2 : Fld Z h0 a1 cC21 "size" "I" (VI 2)) :
    own_M l Z h0 yM53 c56 1 (some .int) 0 0 0 0 #[VR a1] (fun v h => v = some (VI 2) ∧ h0 = h) := by
  refine own_ent hw (plainFor_of_name pn15) #[SR a1] (fun _ => rfl) fun Q k => ?_
  exact jLa d56_0 rfl (jgF 141 f2 d56_1 (jrI d56_4 (k _ _ ⟨rfl, rfl⟩)))
set_option maxRecDepth 65536 in
set_option maxHeartbeats 40000000 in
theorem rm60_2 {a1 a2 : Addr} {k4 : ClassId} {a5 a6 : Addr} (hw : HW a0 Z) (f3 : Fld Z h0 a1 cC21 "elementData" cC1 (VR a2)) (f7 : Arv Z h0 a2 k4 (.object "java/lang/Object") 2 [VR a5, VR a6] (.null)) :
    own_M l Z h0 yM56 c60 2 (some (.object cC24)) 0 0 0 0 #[VR a1, VI 0] (fun v h => v = some (VR a5) ∧ h0 = h) := by
  refine own_ent hw (plainFor_of_name pn15) #[SR a1, SI 0] (fun _ => rfl) fun Q k => ?_
  exact jLa d60_0 rfl (jgF 130 f3 d60_1 (jLi d60_4 rfl (jaa f7 (by decide) (VR a5) rfl d60_5 (jrA d60_6 (k _ _ ⟨rfl, rfl⟩)))))
set_option maxRecDepth 65536 in
set_option maxHeartbeats 40000000 in
theorem rm57_2 {a1 a5 : Addr} {k7 : ClassId} {a8 a9 : Addr} (hw : HW a0 Z) (f2 : Fld Z h0 a1 cC21 "size" "I" (VI 2)) (f4 : Exa Z h0 a1 cC21) (f6 : Fld Z h0 a1 cC21 "elementData" cC1 (VR a5)) (f10 : Arv Z h0 a5 k7 (.object "java/lang/Object") 2 [VR a8, VR a9] (.null)) :
    own_M l Z h0 yM57 c57 2 (some (.object cC24)) 2 0 0 27 #[VR a1, VI 0] (fun v h => v = some (VR a8) ∧ h0 = h) := by
  refine own_ent hw (plainFor_of_name pn15) #[SR a1, SI 0] (fun _ => rfl) fun Q k => ?_
  refine jLi d57_0 rfl (jLa d57_1 rfl (jgF 141 f2 d57_2 (jcS 0 434 435 317 436 (rm58_1 hw (by decide) (by decide)) pd20 d57_5 rfl ?_)))
  rintro _ _ ⟨rfl, rfl⟩
  refine jpO d57_8 rfl (jLa d57_9 rfl (jLi d57_10 rfl (jcV 0 441 442 444 443 110 445 (nfS hw 444) (rm60_2 hw f6 f10) f4 pd29 d57_11 rfl ?_)))
  rintro _ _ ⟨rfl, rfl⟩
  exact jrA d57_14 (k _ _ ⟨rfl, rfl⟩)
set_option maxRecDepth 65536 in
set_option maxHeartbeats 40000000 in
theorem rm60_3 {a1 a2 : Addr} {k4 : ClassId} {a5 a6 : Addr} (hw : HW a0 Z) (f3 : Fld Z h0 a1 cC21 "elementData" cC1 (VR a2)) (f7 : Arv Z h0 a2 k4 (.object "java/lang/Object") 2 [VR a5, VR a6] (.null)) :
    own_M l Z h0 yM56 c60 2 (some (.object cC24)) 0 0 0 0 #[VR a1, VI 1] (fun v h => v = some (VR a6) ∧ h0 = h) := by
  refine own_ent hw (plainFor_of_name pn15) #[SR a1, SI 1] (fun _ => rfl) fun Q k => ?_
  exact jLa d60_0 rfl (jgF 130 f3 d60_1 (jLi d60_4 rfl (jaa f7 (by decide) (VR a6) rfl d60_5 (jrA d60_6 (k _ _ ⟨rfl, rfl⟩)))))
set_option maxRecDepth 65536 in
set_option maxHeartbeats 40000000 in
theorem rm57_3 {a1 a5 : Addr} {k7 : ClassId} {a8 a9 : Addr} (hw : HW a0 Z) (f2 : Fld Z h0 a1 cC21 "size" "I" (VI 2)) (f4 : Exa Z h0 a1 cC21) (f6 : Fld Z h0 a1 cC21 "elementData" cC1 (VR a5)) (f10 : Arv Z h0 a5 k7 (.object "java/lang/Object") 2 [VR a8, VR a9] (.null)) :
    own_M l Z h0 yM57 c57 2 (some (.object cC24)) 2 0 0 27 #[VR a1, VI 1] (fun v h => v = some (VR a9) ∧ h0 = h) := by
  refine own_ent hw (plainFor_of_name pn15) #[SR a1, SI 1] (fun _ => rfl) fun Q k => ?_
  refine jLi d57_0 rfl (jLa d57_1 rfl (jgF 141 f2 d57_2 (jcS 0 434 435 317 436 (rm58_1 hw (by decide) (by decide)) pd20 d57_5 rfl ?_)))
  rintro _ _ ⟨rfl, rfl⟩
  refine jpO d57_8 rfl (jLa d57_9 rfl (jLi d57_10 rfl (jcV 0 441 442 444 443 110 445 (nfS hw 444) (rm60_3 hw f6 f10) f4 pd29 d57_11 rfl ?_)))
  rintro _ _ ⟨rfl, rfl⟩
  exact jrA d57_14 (k _ _ ⟨rfl, rfl⟩)
set_option maxRecDepth 65536 in
set_option maxHeartbeats 40000000 in
theorem rm14_4 {a1 a2 a7 a13 a22 : Addr} {k25 : ClassId} {a26 a34 a38 a45 a48 : Addr} {k56 : ClassId} (hw : HW a0 Z) (f8 : Sta Z Z.heap cC21 "DEFAULTCAPACITY_EMPTY_ELEMENTDATA" cC1 (VR a7)) (f10 : Fld Z h0 a1 cC8 "exclusive" cC10 (.null)) (f14 : Fld Z h0 a1 cC8 "others" cC11 (VR a13)) (f16 : Exa Z h0 a13 cC21) (f18 : Fld Z h0 a13 cC21 "size" "I" (VI 2)) (f23 : Fld Z h0 a13 cC21 "elementData" cC1 (VR a22)) (f27 : Arv Z h0 a22 k25 (.object "java/lang/Object") 2 [VR a26, VR a2] (.null)) (f31 : Exa Z h0 a26 cC18) (f33 : a26 ≠ a2) (f35 : Fld Z h0 a26 cC18 "transaction" cC10 (VR a34)) (f39 : Fld Z h0 a2 cC18 "transaction" cC10 (VR a38)) (f42 : a34 ≠ a38) (f43 : Fld Z h0 a26 cC18 "granted" "Z" (VI 1)) (f46 : Fld Z h0 a26 cC18 "mode" cC3 (VR a45)) (f49 : Fld Z h0 a2 cC18 "mode" cC3 (VR a48)) (f51 : Exa Z h0 a45 cC2) (f53 : Sta Z Z.heap cC2 "SHARED" cC3 (VR a45)) (f54 : a48 ≠ a45) (f57 : Arv Z h0 a7 k56 (.object "java/lang/Object") 0 [] (.null)) (f60 : Exa Z h0 a34 cC15) (f70 : Exa Z h0 a2 cC18) :
    own_M l Z h0 yM15 c14 6 (some (.object cC23)) 5 2 13 69 #[VR a1, VR a2] (fun v h => ∃ (b3 b10_12_13_21_62 : Addr) (k10_12_13_21_62 : ClassId), v = some (VR b3) ∧ Keep h0 h [] ∧ h0.size ≤ b3 ∧ h0.size ≤ b10_12_13_21_62 ∧ b3 ≠ b10_12_13_21_62 ∧ Ovr Z k10_12_13_21_62 cC24 ∧ Exa Z h b3 cC21 ∧ Fld Z h b3 cC21 "elementData" cC1 (VR b10_12_13_21_62) ∧ Fld Z h b3 cC21 "size" "I" (VI 1) ∧ Fld Z h b3 cC22 "modCount" "I" (VI 1) ∧ Arv Z h b10_12_13_21_62 k10_12_13_21_62 (.object "java/lang/Object") 10 [VR a34, .null, .null, .null, .null, .null, .null, .null, .null, .null] (.null) ∧ Exa Z h b10_12_13_21_62 cC1) := by
  refine own_ent hw (plainFor_of_name pn2) #[SR a1, SR a2, SU, SU, SU, SU] (fun _ => rfl) fun Q k => ?_
  refine jnew 108 109 110 d14_0 fun b3 h3 g3 u3 E3 A3 D3 => ?_
  refine jdU d14_3 rfl (jcI 1 111 112 110 113 (rm15_1 hw A3 (dI D3 (lA hw 128)) u3 (dN D3 (lA hw 131)) (dI D3 (lA hw 142)) f8) pd0 d14_4 rfl ?_)
  rintro _ h9 ⟨rfl, K9, o0_9, o1_9, o2_9, o3_9⟩
  have v11 := own_lo f10.lt g3
  have F15 := (f14.ext E3).keep K9 (ninS v11 nin0)
  have F17 := (f16.ext E3).keep K9
  have v19 := own_lo f16.lt g3
  have F20 := (f18.ext E3).keep K9 (ninS v19 nin0)
  refine jta d14_7 #[SR a1, SR a2, SR b3, SU, SU, SU] rfl (jLa d14_8 rfl (jgF 66 ((f10.ext E3).keep K9 (ninS v11 nin0)) d14_9 (jzY 26 d14_12 (jkI 1 d14_26 rfl (jti d14_27 #[SR a1, SR a2, SR b3, SI 1, SU, SU] rfl (jkI 0 d14_28 rfl (jtI d14_29 #[SR a1, SR a2, SR b3, SI 1, SI 0, SU] rfl (jLa d14_31 rfl (jgF 68 F15 d14_32 (jzN d14_35 (jLI d14_38 rfl (jLa d14_40 rfl (jgF 68 F15 d14_41 (jcF 1 420 421 422 423 424 425 426 139 110 427 (rm56_2 hw F20) F17 pd27 d14_44 rfl ?_))))))))))))))
  rintro _ _ ⟨rfl, rfl⟩
  have F24 := (f23.ext E3).keep K9 (ninS v19 nin0)
  have v28 := own_lo f27.lt g3
  have F29 := (f27.ext E3).keep K9 (ninS v28 nin0)
  refine jcgeN d14_49 (by decide) (jLa d14_52 rfl (jgF 68 F15 d14_53 (jLI d14_56 rfl (jcF 0 428 364 365 429 430 431 432 139 110 433 (rm57_2 hw F20 F17 F24 F29) F17 pd29 d14_58 rfl ?_))))
  rintro _ _ ⟨rfl, rfl⟩
  have v36 := own_lo f31.lt g3
  have F37 := (f35.ext E3).keep K9 (ninS v36 nin0)
  have v40 := own_lo f39.lt g3
  refine jcY 75 (Ins.self ((f31.ext E3).keep K9)) d14_63 (jtA d14_66 #[SR a1, SR a2, SR b3, SI 1, SI 0, SR a26] rfl (jLA d14_68 rfl (jLa d14_70 rfl (jac 79 d14_71 (own_dn f33) (jLA d14_79 rfl (jgR 236 F37 d14_81 (jLa d14_84 rfl (jgR 236 ((f39.ext E3).keep K9 (ninS v40 nin0)) d14_85 (jac 91 d14_88 (own_dn f42) (jLA d14_91 rfl (jgR 175 ((f43.ext E3).keep K9 (ninS v36 nin0)) d14_93 (jineY 103 d14_96 (by decide) (jLA d14_103 rfl (jgR 147 ((f46.ext E3).keep K9 (ninS v36 nin0)) d14_105 (jLa d14_108 rfl ?_)))))))))))))))
  refine jgR 147 ((f49.ext E3).keep K9 (ninS v40 nin0)) d14_109 (jcV 0 446 447 449 448 1 450 (nfS hw 449) (rm61_2 hw f53 f54) ((f51.ext E3).keep K9) pd32 d14_112 rfl ?_)
  rintro _ _ ⟨rfl, rfl⟩
  have v58 := own_lo f57.lt g3
  refine jineN d14_115 (by decide) (jLa d14_118 rfl (jLA d14_119 rfl (jgR 236 F37 d14_121 (jcF 0 159 160 161 162 163 164 165 139 110 166 (rm22_3 hw o1_9 o0_9 u3 o2_9 o3_9 ((f57.ext E3).keep K9 (ninS v58 nin0)) v58 f8 ((f60.ext E3).keep K9)) o0_9 pd14 d14_124 rfl ?_))))
  rintro _ h62 ⟨b10_12_13_21_62, k10_12_13_21_62, rfl, K62, lob10_12_13_21_62, ovk10_12_13_21_62, o0_62, o1_62, o2_62, o3_62, o4_62, o5_62⟩
  have F63 := F15.keep K62 (ninS v11 nin0)
  have F64 := F17.keep K62
  have F65 := F20.keep K62 (ninS v19 nin0)
  refine jpO d14_129 rfl (jiC d14_130 #[SR a1, SR a2, SR b3, SI 1, SI 1, SR a26] rfl rfl (jgo 31 d14_133 (jLa d14_31 rfl (jgF 68 F63 d14_32 (jzN d14_35 (jLI d14_38 rfl (jLa d14_40 rfl (jgF 68 F63 d14_41 (jcF 1 420 421 422 423 424 425 426 139 110 427 (rm56_2 hw F65) F64 pd27 d14_44 rfl ?_)))))))))
  rintro _ _ ⟨rfl, rfl⟩
  refine jcgeN d14_49 (by decide) (jLa d14_52 rfl (jgF 68 F63 d14_53 (jLI d14_56 rfl (jcF 0 428 364 365 429 430 431 432 139 110 433 (rm57_3 hw F65 F64 (F24.keep K62 (ninS v19 nin0)) (F29.keep K62 (ninS v28 nin0))) F64 pd29 d14_58 rfl ?_))))
  rintro _ _ ⟨rfl, rfl⟩
  refine jcY 75 (Ins.self (((f70.ext E3).keep K9).keep K62)) d14_63 (jtA d14_66 #[SR a1, SR a2, SR b3, SI 1, SI 1, SR a2] rfl (jLA d14_68 rfl (jLa d14_70 rfl (jac 74 d14_71 (decide_eq_true rfl) (jkI 0 d14_74 rfl (jti d14_75 #[SR a1, SR a2, SR b3, SI 0, SI 1, SR a2] rfl (jgo 130 d14_76 (jiC d14_130 #[SR a1, SR a2, SR b3, SI 0, SI 2, SR a2] rfl rfl (jgo 31 d14_133 (jLa d14_31 rfl (jgF 68 F63 d14_32 (jzN d14_35 (jLI d14_38 rfl (jLa d14_40 rfl (jgF 68 F63 d14_41 ?_)))))))))))))))
  refine jcF 1 420 421 422 423 424 425 426 139 110 427 (rm56_2 hw F65) F64 pd27 d14_44 rfl ?_
  rintro _ _ ⟨rfl, rfl⟩
  exact jcgeY 136 d14_49 (by decide) (jLa d14_136 rfl (jrA d14_137 (k _ _ ⟨b3, b10_12_13_21_62, k10_12_13_21_62, rfl, ((((Keep.refl h0 []).ext E3).trans K9 (allS (Or.inr g3) all0)).trans K62 (allS (Or.inr g3) all0)), g3, (Nat.le_trans (Nat.le_trans E3.1 K9.1) lob10_12_13_21_62), (own_lo A3.lt (Nat.le_trans K9.1 lob10_12_13_21_62)), ovk10_12_13_21_62, o0_62, o1_62, o2_62, o3_62, o4_62, o5_62⟩)))
set_option maxRecDepth 65536 in
set_option maxHeartbeats 40000000 in
theorem rm13_4 {a1 a2 a4 a7 a11 : Addr} {k13 : ClassId} {a14 a18 a20 a24 a26 : Addr} {k31 : ClassId} (hw : HW a0 Z) (f3 : Exa Z h0 a1 cC8) (f5 : Sta Z Z.heap cC21 "DEFAULTCAPACITY_EMPTY_ELEMENTDATA" cC1 (VR a4)) (f6 : Fld Z h0 a1 cC8 "exclusive" cC10 (.null)) (f8 : Fld Z h0 a1 cC8 "others" cC11 (VR a7)) (f9 : Exa Z h0 a7 cC21) (f10 : Fld Z h0 a7 cC21 "size" "I" (VI 2)) (f12 : Fld Z h0 a7 cC21 "elementData" cC1 (VR a11)) (f15 : Arv Z h0 a11 k13 (.object "java/lang/Object") 2 [VR a14, VR a2] (.null)) (f16 : Exa Z h0 a14 cC18) (f17 : a14 ≠ a2) (f19 : Fld Z h0 a14 cC18 "transaction" cC10 (VR a18)) (f21 : Fld Z h0 a2 cC18 "transaction" cC10 (VR a20)) (f22 : a18 ≠ a20) (f23 : Fld Z h0 a14 cC18 "granted" "Z" (VI 1)) (f25 : Fld Z h0 a14 cC18 "mode" cC3 (VR a24)) (f27 : Fld Z h0 a2 cC18 "mode" cC3 (VR a26)) (f28 : Exa Z h0 a24 cC2) (f29 : Sta Z Z.heap cC2 "SHARED" cC3 (VR a24)) (f30 : a26 ≠ a24) (f32 : Arv Z h0 a4 k31 (.object "java/lang/Object") 0 [] (.null)) (f33 : Exa Z h0 a18 cC15) (f34 : Exa Z h0 a2 cC18) :
    own_M l Z h0 yM17 c13 2 (some .boolean) 6 2 13 86 #[VR a1, VR a2] (fun v h => v = some (VI 0) ∧ Keep h0 h []) := by
  refine own_ent hw (plainFor_of_name pn2) #[SR a1, SR a2] (fun _ => rfl) fun Q k => ?_
  refine jLa d13_0 rfl (jLa d13_1 rfl (jcV 0 103 104 106 105 5 107 (nfS hw 106) (rm14_4 hw f5 f6 f8 f9 f10 f12 f15 f16 f17 f19 f21 f22 f23 f25 f27 f28 f29 f30 f32 f33 f34) f3 pd9 d13_2 rfl ?_))
  rintro _ h35 ⟨b3_35, b10_12_13_21_62_35, k10_12_13_21_62_35, rfl, K35, lob3_35, lob10_12_13_21_62_35, neb3b10_12_13_21_62_35, ovk10_12_13_21_62_35, o0_35, o1_35, o2_35, o3_35, o4_35, o5_35⟩
  refine jcF 0 132 133 134 135 136 137 138 139 110 140 (rm18_2 hw o2_35) o0_35 pd5 d13_5 rfl ?_
  rintro _ _ ⟨rfl, rfl⟩
  exact jrZ d13_10 (k _ _ ⟨rfl, ((Keep.refl h0 []).trans K35 all0)⟩)
set_option maxRecDepth 65536 in
set_option maxHeartbeats 40000000 in
theorem rm46_6 {a1 : Addr} (hw : HW a0 Z) (f2 : Fld Z h0 a1 cC35 "cursor" "I" (VI 2)) (f3 : Fld Z h0 a1 cC35 "size" "I" (VI 2)) :
    own_M l Z h0 yM45 c46 1 (some .boolean) 0 0 0 0 #[VR a1] (fun v h => v = some (VI 0) ∧ h0 = h) := by
  refine own_ent hw (plainFor_of_name pn45) #[SR a1] (fun _ => rfl) fun Q k => ?_
  exact jLa d46_0 rfl (jgF 348 f2 d46_1 (jLa d46_4 rfl (jgF 346 f3 d46_5 (jceqY 15 d46_8 (by decide) (jkI 0 d46_15 rfl (jrZ d46_16 (k _ _ ⟨rfl, rfl⟩)))))))
set_option maxRecDepth 65536 in
set_option maxHeartbeats 40000000 in
theorem rm31_4 {a1 a2 a6 a9 : Addr} {k11 : ClassId} {a12 a13 a18 a43 a57 a60 a65 a68 : Addr} {k75 : ClassId} (hw : HW a0 Z) (f3 : Fld Z h0 a1 cC8 "others" cC11 (VR a2)) (f4 : Exa Z h0 a2 cC21) (f5 : Fld Z h0 a2 cC21 "size" "I" (VI 2)) (f7 : Fld Z h0 a2 cC21 "elementData" cC1 (VR a6)) (f8 : Exa Z h0 a6 cC1) (f10 : own_Mir Z cC1 a9) (f14 : Arv Z h0 a6 k11 (.object "java/lang/Object") 2 [VR a12, VR a13] (.null)) (f15 : Exa Z h0 a13 cC18) (f16 : Exa Z h0 a12 cC18) (f19 : Sta Z Z.heap cC34 "EMPTY" cC9 (VR a18)) (f20 : a13 ≠ a18) (f29 : Fld Z h0 a12 cC18 "granted" "Z" (VI 1)) (f38 : Fld Z h0 a13 cC18 "granted" "Z" (VI 0)) (f41 : Exa Z h0 a1 cC8) (f44 : Sta Z Z.heap cC21 "DEFAULTCAPACITY_EMPTY_ELEMENTDATA" cC1 (VR a43)) (f45 : Fld Z h0 a1 cC8 "exclusive" cC10 (.null)) (f56 : a12 ≠ a13) (f58 : Fld Z h0 a12 cC18 "transaction" cC10 (VR a57)) (f61 : Fld Z h0 a13 cC18 "transaction" cC10 (VR a60)) (f63 : a57 ≠ a60) (f66 : Fld Z h0 a12 cC18 "mode" cC3 (VR a65)) (f69 : Fld Z h0 a13 cC18 "mode" cC3 (VR a68)) (f71 : Exa Z h0 a65 cC2) (f73 : Sta Z Z.heap cC2 "SHARED" cC3 (VR a65)) (f74 : a68 ≠ a65) (f76 : Arv Z h0 a43 k75 (.object "java/lang/Object") 0 [] (.null)) (f79 : Exa Z h0 a57 cC15) :
    own_M l Z h0 yM48 c31 4 (some .boolean) 8 5 21 101 #[VR a1] (fun v h => v = some (VI 0) ∧ Keep h0 h []) := by
  refine own_ent hw (plainFor_of_name pn2) #[SR a1, SU, SU, SU] (fun _ => rfl) fun Q k => ?_
  refine own_z fun Z0 => ?_
  refine jkI 0 d31_0 rfl (jti d31_1 #[SR a1, SI 0, SU, SU] rfl (jLa d31_2 rfl (jgF 68 f3 d31_3 (jzN d31_6 (jLa d31_9 rfl (jgF 68 f3 d31_10 (jcS 0 241 242 243 244 (rm32_3 hw f4 f5 f7 f8 f10 f14 f15 f16) pd26 d31_13 rfl ?_)))))))
  rintro _ h17 ⟨b6_17_15_17, rfl, K17, lob6_17_15_17, o0_17, o1_17, o2_17⟩
  refine jcF 0 186 187 188 324 325 326 327 328 305 329 (rm43_3 hw o0_17 o2_17 f19 f20) o0_17 pd18 d31_16 rfl ?_
  rintro _ h21 ⟨b2_21, rfl, K21, lob2_21, o0_21, o1_21, o2_21, o3_21, o4_21⟩
  refine jta d31_21 #[SR a1, SI 0, SR b2_21, SU] rfl (jLa d31_22 rfl (jcF 0 209 210 211 352 353 354 355 356 332 357 (rm46_4 hw o3_21 o2_21) o0_21 pd5 d31_23 rfl ?_))
  rintro _ _ ⟨rfl, rfl⟩
  have F23 := o0_17.keep K21
  have z26 := K17.1
  have u25 := Nat.le_trans Z0 (Nat.le_trans z26 lob2_21)
  refine jieqN d31_28 (by decide) (jLa d31_31 rfl (jcG 0 221 222 223 358 359 360 361 356 332 362 (rm47_2 hw o3_21 o1_21 F23 (o1_17.keep K21 nin0) o0_21 u25 o2_21 o4_21) o0_21 pd19 d31_32 rfl ?_))
  rintro _ h27 ⟨rfl, K27, o0_27, o1_27, o2_27, o3_27, o4_27⟩
  have F28 := ((f16.keep K17).keep K21).keep K27
  have v30 := own_lo f16.lt (Nat.le_trans z26 lob2_21)
  have F31 := ((f29.keep K17 nin0).keep K21 nin0).keep K27 (ninS v30 nin0)
  refine jcY 75 (Ins.self F28) d31_37 (jta d31_40 #[SR a1, SI 0, SR b2_21, SR a12] rfl (jLa d31_41 rfl (jgR 175 F31 d31_42 (jineY 63 d31_45 (by decide) (jgo 22 d31_63 (jLa d31_22 rfl (jcF 0 209 210 211 352 353 354 355 356 332 357 (rm46_5 hw o0_27 o3_27) o2_27 pd5 d31_23 rfl ?_)))))))
  rintro _ _ ⟨rfl, rfl⟩
  refine jieqN d31_28 (by decide) (jLa d31_31 rfl (jcG 0 221 222 223 358 359 360 361 356 332 362 (rm47_3 hw o0_27 o1_27 (F23.keep K27) ((o2_17.keep K21 nin0).keep K27 (ninS (own_lo o0_17.lt lob2_21) nin0)) f19 f20 o2_27 u25 o3_27 o4_27) o2_27 pd19 d31_32 rfl ?_))
  rintro _ h36 ⟨rfl, K36, o0_36, o1_36, o2_36, o3_36, o4_36⟩
  have F37 := (((f15.keep K17).keep K21).keep K27).keep K36
  have v39 := own_lo f15.lt (Nat.le_trans z26 lob2_21)
  have F42 := (((f41.keep K17).keep K21).keep K27).keep K36
  have v46 := own_lo f3.lt (Nat.le_trans z26 lob2_21)
  have F48 := (((f3.keep K17 nin0).keep K21 nin0).keep K27 (ninS v46 nin0)).keep K36 (ninS v46 nin0)
  have F49 := (((f4.keep K17).keep K21).keep K27).keep K36
  have v50 := own_lo f4.lt (Nat.le_trans z26 lob2_21)
  have F51 := (((f5.keep K17 nin0).keep K21 nin0).keep K27 (ninS v50 nin0)).keep K36 (ninS v50 nin0)
  have v53 := own_lo f8.lt (Nat.le_trans z26 lob2_21)
  have v77 := own_lo f76.lt (Nat.le_trans z26 lob2_21)
  refine jcY 75 (Ins.self F37) d31_37 (jta d31_40 #[SR a1, SI 0, SR b2_21, SR a13] rfl (jLa d31_41 rfl (jgR 175 ((((f38.keep K17 nin0).keep K21 nin0).keep K27 (ninS v39 nin0)).keep K36 (ninS v39 nin0)) d31_42 (jineN d31_45 (by decide) (jLa d31_48 rfl (jLa d31_49 rfl (jcP 0 99 4 101 100 5 102 (rm13_4 hw F42 f44 ((((f45.keep K17 nin0).keep K21 nin0).keep K27 (ninS v46 nin0)).keep K36 (ninS v46 nin0)) F48 F49 F51 ((((f7.keep K17 nin0).keep K21 nin0).keep K27 (ninS v50 nin0)).keep K36 (ninS v50 nin0)) ((((f14.keep K17 nin0).keep K21 nin0).keep K27 (ninS v53 nin0)).keep K36 (ninS v53 nin0)) (F28.keep K36) f56 ((((f58.keep K17 nin0).keep K21 nin0).keep K27 (ninS v30 nin0)).keep K36 (ninS v30 nin0)) ((((f61.keep K17 nin0).keep K21 nin0).keep K27 (ninS v39 nin0)).keep K36 (ninS v39 nin0)) f63 (F31.keep K36 (ninS v30 nin0)) ((((f66.keep K17 nin0).keep K21 nin0).keep K27 (ninS v30 nin0)).keep K36 (ninS v30 nin0)) ((((f69.keep K17 nin0).keep K21 nin0).keep K27 (ninS v39 nin0)).keep K36 (ninS v39 nin0)) ((((f71.keep K17).keep K21).keep K27).keep K36) f73 f74 ((((f76.keep K17 nin0).keep K21 nin0).keep K27 (ninS v77 nin0)).keep K36 (ninS v77 nin0)) ((((f79.keep K17).keep K21).keep K27).keep K36) F37) F42 pd10 d31_50 rfl ?_)))))))
  rintro _ h81 ⟨rfl, K81⟩
  refine jieqY 63 d31_53 (by decide) (jgo 22 d31_63 (jLa d31_22 rfl (jcF 0 209 210 211 352 353 354 355 356 332 357 (rm46_6 hw (o0_36.keep K81 nin0) (o3_36.keep K81 nin0)) (o2_36.keep K81) pd5 d31_23 rfl ?_)))
  rintro _ _ ⟨rfl, rfl⟩
  refine jieqY 66 d31_28 (by decide) (jLa d31_66 rfl (jcP 0 177 4 179 178 5 180 (rm24_4 hw (F48.keep K81 nin0) (F49.keep K81) (F51.keep K81 nin0)) (F42.keep K81) pd0 d31_67 rfl ?_))
  rintro _ _ ⟨rfl, rfl⟩
  exact jLi d31_70 rfl (jrZ d31_71 (k _ _ ⟨rfl, ((((((Keep.refl h0 []).trans K17 all0).trans K21 all0).trans K27 (allS (Or.inr (Nat.le_trans z26 lob2_21)) all0)).trans K36 (allS (Or.inr (Nat.le_trans z26 lob2_21)) all0)).trans K81 all0)⟩))
set_option maxRecDepth 65536 in
set_option maxHeartbeats 40000000 in
theorem rm25_6 {a1 a2 a5 : Addr} {p8 : Int32} {a11 : Addr} {k13 : ClassId} {a14 a15 a19 a32 a37 a42 a49 a52 : Addr} {k59 : ClassId} (hw : HW a0 Z) (f3 : Fld Z h0 a1 cC8 "exclusive" cC10 (.null)) (f4 : Exa Z h0 a1 cC8) (f6 : Fld Z h0 a1 cC8 "others" cC11 (VR a5)) (f7 : Exa Z h0 a5 cC21) (f9 : Fld Z h0 a5 cC22 "modCount" "I" (VI p8)) (f10 : Fld Z h0 a5 cC21 "size" "I" (VI 2)) (f12 : Fld Z h0 a5 cC21 "elementData" cC1 (VR a11)) (f16 : Arv Z h0 a11 k13 (.object "java/lang/Object") 2 [VR a14, VR a15] (.null)) (f17 : Exa Z h0 a14 cC18) (f18 : Fld Z h0 a14 cC18 "granted" "Z" (VI 1)) (f20 : Fld Z h0 a14 cC18 "transaction" cC10 (VR a19)) (f21 : a19 ≠ a2) (f22 : Exa Z h0 a15 cC18) (f23 : Fld Z h0 a15 cC18 "granted" "Z" (VI 0)) (f30 : Exa Z h0 a11 cC1) (f33 : own_Mir Z cC1 a32) (f38 : Sta Z Z.heap cC34 "EMPTY" cC9 (VR a37)) (f39 : a15 ≠ a37) (f43 : Sta Z Z.heap cC21 "DEFAULTCAPACITY_EMPTY_ELEMENTDATA" cC1 (VR a42)) (f45 : a14 ≠ a15) (f47 : Fld Z h0 a15 cC18 "transaction" cC10 (VR a2)) (f50 : Fld Z h0 a14 cC18 "mode" cC3 (VR a49)) (f53 : Fld Z h0 a15 cC18 "mode" cC3 (VR a52)) (f55 : Exa Z h0 a49 cC2) (f57 : Sta Z Z.heap cC2 "SHARED" cC3 (VR a49)) (f58 : a52 ≠ a49) (f60 : Arv Z h0 a42 k59 (.object "java/lang/Object") 0 [] (.null)) (f62 : Exa Z h0 a19 cC15) :
    own_M l Z h0 yM49 c25 3 (some .boolean) 9 6 25 116 #[VR a1, VR a2] (fun v h => v = some (VI 0) ∧ Keep h0 h []) := by
  refine own_ent hw (plainFor_of_name pn2) #[SR a1, SR a2, SU] (fun _ => rfl) fun Q k => ?_
  refine jLa d25_0 rfl (jgF 66 f3 d25_1 (jLa d25_4 rfl (jac 18 d25_5 (decide_eq_false nofun) (jLa d25_18 rfl (jLa d25_19 rfl (jcP 0 82 4 84 83 5 85 (rm11_6 hw f6 f7 f9 f10 f12 f16 f17 f18 f20 f21 f22 f23) f4 pd6 d25_20 rfl ?_))))))
  rintro _ h24 ⟨rfl, K24⟩
  have F25 := f4.keep K24
  refine jnta d25_23 #[SR a1, SR a2, SN] rfl (jnLa d25_24 rfl (jzY 39 d25_25 (jLa d25_39 rfl (jcP 0 237 4 239 238 5 240 (rm31_4 hw (f6.keep K24 nin0) (f7.keep K24) (f10.keep K24 nin0) (f12.keep K24 nin0) (f30.keep K24) f33 (f16.keep K24 nin0) (f22.keep K24) (f17.keep K24) f38 f39 (f18.keep K24 nin0) (f23.keep K24 nin0) F25 f43 (f3.keep K24 nin0) f45 (f20.keep K24 nin0) (f47.keep K24 nin0) f21 (f50.keep K24 nin0) (f53.keep K24 nin0) (f55.keep K24) f57 f58 (f60.keep K24 nin0) (f62.keep K24)) F25 pd5 d25_40 rfl ?_))))
  rintro _ h64 ⟨rfl, K64⟩
  exact jrZ d25_43 (k _ _ ⟨rfl, (((Keep.refl h0 []).trans K24 all0).trans K64 all0)⟩)
set_option maxRecDepth 65536 in
set_option maxHeartbeats 40000000 in
theorem rm11_7 {a1 a2 a3 : Addr} {p6 : Int32} {a13 : Addr} {k16 : ClassId} {a17 a18 a31 : Addr} (hw : HW a0 Z) (f4 : Fld Z h0 a1 cC8 "others" cC11 (VR a3)) (f5 : Exa Z h0 a3 cC21) (f7 : Fld Z h0 a3 cC22 "modCount" "I" (VI p6)) (f9 : Fld Z h0 a3 cC21 "size" "I" (VI 2)) (f14 : Fld Z h0 a3 cC21 "elementData" cC1 (VR a13)) (f19 : Arv Z h0 a13 k16 (.object "java/lang/Object") 2 [VR a17, VR a18] (.null)) (f24 : Exa Z h0 a17 cC18) (f26 : Fld Z h0 a17 cC18 "granted" "Z" (VI 1)) (f29 : Fld Z h0 a17 cC18 "transaction" cC10 (VR a2)) (f32 : Fld Z h0 a17 cC18 "mode" cC3 (VR a31)) (f34 : Sta Z Z.heap cC2 "SHARED" cC3 (VR a31)) (f42 : Exa Z h0 a18 cC18) (f44 : Fld Z h0 a18 cC18 "granted" "Z" (VI 0)) :
    own_M l Z h0 yM9 c11 5 (some (.object cC18)) 3 1 4 38 #[VR a1, VR a2] (fun v h => v = some (VR a17) ∧ Keep h0 h []) := by
  refine own_ent hw (plainFor_of_name pn2) #[SR a1, SR a2, SU, SU, SU] (fun _ => rfl) fun Q k => ?_
  refine own_z fun Z0 => ?_
  refine jkN d11_0 (jnta d11_1 #[SR a1, SR a2, SN, SU, SU] rfl (jLa d11_2 rfl (jgF 68 f4 d11_3 (jzN d11_6 (jLa d11_9 rfl (jgF 68 f4 d11_10 (jcF 0 186 187 188 189 190 191 192 139 110 193 (rm26_1 hw f7) f5 pd18 d11_13 rfl ?_)))))))
  rintro _ h8 ⟨b2_8, rfl, K8, lob2_8, o0_8, o1_8, o2_8, o3_8, o4_8⟩
  have F10 := f9.keep K8 nin0
  refine jta d11_18 #[SR a1, SR a2, SN, SR b2_8, SU] rfl (jLa d11_19 rfl (jcF 0 209 210 211 212 213 214 215 216 196 217 (rm28_3 hw o4_8 o1_8 F10) o0_8 pd5 d11_20 rfl ?_))
  rintro _ _ ⟨rfl, rfl⟩
  have F12 := f7.keep K8 nin0
  have F15 := f14.keep K8 nin0
  have F20 := f19.keep K8 nin0
  have v21 := own_lo f19.lt lob2_8
  have u22 := Nat.le_trans Z0 lob2_8
  refine jieqN d11_25 (by decide) (jLa d11_28 rfl (jcF 0 221 222 223 224 225 226 227 216 196 228 (rm29_2 hw o0_8 o1_8 F12 o3_8 o4_8 F10 F15 F20 u22 o2_8 v21) o0_8 pd19 d11_29 rfl ?_))
  rintro _ h23 ⟨rfl, K23, o0_23, o1_23, o2_23, o3_23, o4_23⟩
  have v27 := own_lo f24.lt lob2_8
  refine jcY 75 (Ins.self ((f24.keep K8).keep K23)) d11_34 (jtA d11_37 #[SR a1, SR a2, SN, SR b2_8, SR a17] rfl (jLA d11_39 rfl (jgR 175 ((f26.keep K8 nin0).keep K23 (ninS v27 nin0)) d11_41 (jieqN d11_44 (by decide) (jLA d11_47 rfl (jgR 236 ((f29.keep K8 nin0).keep K23 (ninS v27 nin0)) d11_49 (jLa d11_52 rfl (jac 56 d11_53 (decide_eq_true rfl) (jLA d11_56 rfl (jgR 147 ((f32.keep K8 nin0).keep K23 (ninS v27 nin0)) d11_58 (jgS 98 f34 d11_61 (jac 67 d11_64 (decide_eq_true rfl) (jLA d11_67 rfl (jta d11_69 #[SR a1, SR a2, SR a17, SR b2_8, SR a17] rfl (jgo 19 d11_70 ?_)))))))))))))))
  have v35 := own_lo f5.lt lob2_8
  have F36 := F10.keep K23 (ninS v35 nin0)
  refine jLa d11_19 rfl (jcF 0 209 210 211 212 213 214 215 216 196 217 (rm28_4 hw o3_23 o1_23 F36) o0_23 pd5 d11_20 rfl ?_)
  rintro _ _ ⟨rfl, rfl⟩
  refine jieqN d11_25 (by decide) (jLa d11_28 rfl (jcF 0 221 222 223 224 225 226 227 216 196 228 (rm29_3 hw o0_23 o1_23 (F12.keep K23 (ninS v35 nin0)) o2_23 o3_23 F36 (F15.keep K23 (ninS v35 nin0)) (F20.keep K23 (ninS v21 nin0)) u22 o4_23 v21) o0_23 pd19 d11_29 rfl ?_))
  rintro _ h41 ⟨rfl, K41, o0_41, o1_41, o2_41, o3_41, o4_41⟩
  have v45 := own_lo f42.lt lob2_8
  refine jcY 75 (Ins.self (((f42.keep K8).keep K23).keep K41)) d11_34 (jtA d11_37 #[SR a1, SR a2, SR a17, SR b2_8, SR a18] rfl (jLA d11_39 rfl (jgR 175 (((f44.keep K8 nin0).keep K23 (ninS v45 nin0)).keep K41 (ninS v45 nin0)) d11_41 (jieqY 70 d11_44 (by decide) (jgo 19 d11_70 (jLa d11_19 rfl (jcF 0 209 210 211 212 213 214 215 216 196 217 (rm28_5 hw o3_41 o1_41 (F36.keep K41 (ninS v35 nin0))) o0_41 pd5 d11_20 rfl ?_)))))))
  rintro _ _ ⟨rfl, rfl⟩
  exact jieqY 73 d11_25 (by decide) (jLa d11_73 rfl (jrA d11_74 (k _ _ ⟨rfl, ((((Keep.refl h0 []).trans K8 all0).trans K23 (allS (Or.inr lob2_8) all0)).trans K41 (allS (Or.inr lob2_8) all0))⟩)))
set_option maxRecDepth 65536 in
set_option maxHeartbeats 40000000 in
theorem rm14_5 {a1 a2 a7 a13 a22 : Addr} {k25 : ClassId} (hw : HW a0 Z) (f8 : Sta Z Z.heap cC21 "DEFAULTCAPACITY_EMPTY_ELEMENTDATA" cC1 (VR a7)) (f10 : Fld Z h0 a1 cC8 "exclusive" cC10 (.null)) (f14 : Fld Z h0 a1 cC8 "others" cC11 (VR a13)) (f16 : Exa Z h0 a13 cC21) (f18 : Fld Z h0 a13 cC21 "size" "I" (VI 1)) (f23 : Fld Z h0 a13 cC21 "elementData" cC1 (VR a22)) (f26 : Arv Z h0 a22 k25 (.object "java/lang/Object") 2 [VR a2, .null] (.null)) (f30 : Exa Z h0 a2 cC18) :
    own_M l Z h0 yM15 c14 6 (some (.object cC23)) 4 1 3 49 #[VR a1, VR a2] (fun v h => ∃ (b3 : Addr), v = some (VR b3) ∧ Keep h0 h [] ∧ h0.size ≤ b3 ∧ Exa Z h b3 cC21 ∧ Fld Z h b3 cC22 "modCount" "I" (VI 0) ∧ Fld Z h b3 cC21 "elementData" cC1 (VR a7) ∧ Fld Z h b3 cC21 "size" "I" (VI 0)) := by
  refine own_ent hw (plainFor_of_name pn2) #[SR a1, SR a2, SU, SU, SU, SU] (fun _ => rfl) fun Q k => ?_
  refine jnew 108 109 110 d14_0 fun b3 h3 g3 u3 E3 A3 D3 => ?_
  refine jdU d14_3 rfl (jcI 1 111 112 110 113 (rm15_1 hw A3 (dI D3 (lA hw 128)) u3 (dN D3 (lA hw 131)) (dI D3 (lA hw 142)) f8) pd0 d14_4 rfl ?_)
  rintro _ h9 ⟨rfl, K9, o0_9, o1_9, o2_9, o3_9⟩
  have v11 := own_lo f10.lt g3
  have F15 := (f14.ext E3).keep K9 (ninS v11 nin0)
  have F17 := (f16.ext E3).keep K9
  have v19 := own_lo f16.lt g3
  have F20 := (f18.ext E3).keep K9 (ninS v19 nin0)
  refine jta d14_7 #[SR a1, SR a2, SR b3, SU, SU, SU] rfl (jLa d14_8 rfl (jgF 66 ((f10.ext E3).keep K9 (ninS v11 nin0)) d14_9 (jzY 26 d14_12 (jkI 1 d14_26 rfl (jti d14_27 #[SR a1, SR a2, SR b3, SI 1, SU, SU] rfl (jkI 0 d14_28 rfl (jtI d14_29 #[SR a1, SR a2, SR b3, SI 1, SI 0, SU] rfl (jLa d14_31 rfl (jgF 68 F15 d14_32 (jzN d14_35 (jLI d14_38 rfl (jLa d14_40 rfl (jgF 68 F15 d14_41 (jcF 1 420 421 422 423 424 425 426 139 110 427 (rm56_1 hw F20) F17 pd27 d14_44 rfl ?_))))))))))))))
  rintro _ _ ⟨rfl, rfl⟩
  refine jcgeN d14_49 (by decide) (jLa d14_52 rfl (jgF 68 F15 d14_53 (jLI d14_56 rfl (jcF 0 428 364 365 429 430 431 432 139 110 433 (rm57_1 hw F20 F17 ((f23.ext E3).keep K9 (ninS v19 nin0)) ((f26.ext E3).keep K9 (ninS (own_lo f26.lt g3) nin0))) F17 pd29 d14_58 rfl ?_))))
  rintro _ _ ⟨rfl, rfl⟩
  refine jcY 75 (Ins.self ((f30.ext E3).keep K9)) d14_63 (jtA d14_66 #[SR a1, SR a2, SR b3, SI 1, SI 0, SR a2] rfl (jLA d14_68 rfl (jLa d14_70 rfl (jac 74 d14_71 (decide_eq_true rfl) (jkI 0 d14_74 rfl (jti d14_75 #[SR a1, SR a2, SR b3, SI 0, SI 0, SR a2] rfl (jgo 130 d14_76 (jiC d14_130 #[SR a1, SR a2, SR b3, SI 0, SI 1, SR a2] rfl rfl (jgo 31 d14_133 (jLa d14_31 rfl (jgF 68 F15 d14_32 (jzN d14_35 (jLI d14_38 rfl (jLa d14_40 rfl (jgF 68 F15 d14_41 ?_)))))))))))))))
  refine jcF 1 420 421 422 423 424 425 426 139 110 427 (rm56_1 hw F20) F17 pd27 d14_44 rfl ?_
  rintro _ _ ⟨rfl, rfl⟩
  exact jcgeY 136 d14_49 (by decide) (jLa d14_136 rfl (jrA d14_137 (k _ _ ⟨b3, rfl, (((Keep.refl h0 []).ext E3).trans K9 (allS (Or.inr g3) all0)), g3, o0_9, o1_9, o2_9, o3_9⟩)))
set_option maxRecDepth 65536 in
set_option maxHeartbeats 40000000 in
theorem rm13_5 {a1 a2 a4 a7 a11 : Addr} {k13 : ClassId} (hw : HW a0 Z) (f3 : Exa Z h0 a1 cC8) (f5 : Sta Z Z.heap cC21 "DEFAULTCAPACITY_EMPTY_ELEMENTDATA" cC1 (VR a4)) (f6 : Fld Z h0 a1 cC8 "exclusive" cC10 (.null)) (f8 : Fld Z h0 a1 cC8 "others" cC11 (VR a7)) (f9 : Exa Z h0 a7 cC21) (f10 : Fld Z h0 a7 cC21 "size" "I" (VI 1)) (f12 : Fld Z h0 a7 cC21 "elementData" cC1 (VR a11)) (f14 : Arv Z h0 a11 k13 (.object "java/lang/Object") 2 [VR a2, .null] (.null)) (f15 : Exa Z h0 a2 cC18) :
    own_M l Z h0 yM17 c13 2 (some .boolean) 5 1 3 66 #[VR a1, VR a2] (fun v h => v = some (VI 1) ∧ Keep h0 h []) := by
  refine own_ent hw (plainFor_of_name pn2) #[SR a1, SR a2] (fun _ => rfl) fun Q k => ?_
  refine jLa d13_0 rfl (jLa d13_1 rfl (jcV 0 103 104 106 105 5 107 (nfS hw 106) (rm14_5 hw f5 f6 f8 f9 f10 f12 f14 f15) f3 pd9 d13_2 rfl ?_))
  rintro _ h16 ⟨b3_16, rfl, K16, lob3_16, o0_16, o1_16, o2_16, o3_16⟩
  refine jcF 0 132 133 134 135 136 137 138 139 110 140 (rm18_1 hw o3_16) o0_16 pd5 d13_5 rfl ?_
  rintro _ _ ⟨rfl, rfl⟩
  exact jrZ d13_10 (k _ _ ⟨rfl, ((Keep.refl h0 []).trans K16 all0)⟩)
set_option maxRecDepth 65536 in
set_option maxHeartbeats 40000000 in
theorem rm11_8 {a1 a2 a3 : Addr} {p6 : Int32} {a13 : Addr} {k16 : ClassId} {a17 : Addr} (hw : HW a0 Z) (f4 : Fld Z h0 a1 cC8 "others" cC11 (VR a3)) (f5 : Exa Z h0 a3 cC21) (f7 : Fld Z h0 a3 cC22 "modCount" "I" (VI p6)) (f9 : Fld Z h0 a3 cC21 "size" "I" (VI 1)) (f14 : Fld Z h0 a3 cC21 "elementData" cC1 (VR a13)) (f18 : Arv Z h0 a13 k16 (.object "java/lang/Object") 2 [VR a17, .null] (.null)) (f23 : Exa Z h0 a17 cC18) (f25 : Fld Z h0 a17 cC18 "granted" "Z" (VI 0)) :
    own_M l Z h0 yM9 c11 5 (some (.object cC18)) 3 1 4 38 #[VR a1, VR a2] (fun v h => v = some (.null) ∧ Keep h0 h []) := by
  refine own_ent hw (plainFor_of_name pn2) #[SR a1, SR a2, SU, SU, SU] (fun _ => rfl) fun Q k => ?_
  refine own_z fun Z0 => ?_
  refine jkN d11_0 (jnta d11_1 #[SR a1, SR a2, SN, SU, SU] rfl (jLa d11_2 rfl (jgF 68 f4 d11_3 (jzN d11_6 (jLa d11_9 rfl (jgF 68 f4 d11_10 (jcF 0 186 187 188 189 190 191 192 139 110 193 (rm26_1 hw f7) f5 pd18 d11_13 rfl ?_)))))))
  rintro _ h8 ⟨b2_8, rfl, K8, lob2_8, o0_8, o1_8, o2_8, o3_8, o4_8⟩
  have F10 := f9.keep K8 nin0
  refine jta d11_18 #[SR a1, SR a2, SN, SR b2_8, SU] rfl (jLa d11_19 rfl (jcF 0 209 210 211 212 213 214 215 216 196 217 (rm28_1 hw o4_8 o1_8 F10) o0_8 pd5 d11_20 rfl ?_))
  rintro _ _ ⟨rfl, rfl⟩
  refine jieqN d11_25 (by decide) (jLa d11_28 rfl (jcF 0 221 222 223 224 225 226 227 216 196 228 (rm29_1 hw o0_8 o1_8 (f7.keep K8 nin0) o3_8 o4_8 F10 (f14.keep K8 nin0) (f18.keep K8 nin0) (Nat.le_trans Z0 lob2_8) o2_8 (own_lo f18.lt lob2_8)) o0_8 pd19 d11_29 rfl ?_))
  rintro _ h22 ⟨rfl, K22, o0_22, o1_22, o2_22, o3_22, o4_22⟩
  refine jcY 75 (Ins.self ((f23.keep K8).keep K22)) d11_34 (jtA d11_37 #[SR a1, SR a2, SN, SR b2_8, SR a17] rfl (jLA d11_39 rfl (jgR 175 ((f25.keep K8 nin0).keep K22 (ninS (own_lo f23.lt lob2_8) nin0)) d11_41 (jieqY 70 d11_44 (by decide) (jgo 19 d11_70 (jLa d11_19 rfl (jcF 0 209 210 211 212 213 214 215 216 196 217 (rm28_2 hw o3_22 o1_22 (F10.keep K22 (ninS (own_lo f5.lt lob2_8) nin0))) o0_22 pd5 d11_20 rfl ?_)))))))
  rintro _ _ ⟨rfl, rfl⟩
  exact jieqY 73 d11_25 (by decide) (jnLa d11_73 rfl (jrAn d11_74 (k _ _ ⟨rfl, (((Keep.refl h0 []).trans K8 all0).trans K22 (allS (Or.inr lob2_8) all0))⟩)))
set_option maxRecDepth 65536 in
set_option maxHeartbeats 40000000 in
theorem rm49_4 {a1 a2 : Addr} (hw : HW a0 Z) (f3 : Fld Z h0 a1 cC21 "elementData" cC1 (VR a2)) (f4 : Fld Z h0 a1 cC21 "size" "I" (VI 0)) :
    own_M l Z h0 yM51 c49 5 (some .boolean) 0 0 0 0 #[VR a1, .null] (fun v h => v = some (VI 0) ∧ h0 = h) := by
  refine own_ent hw (plainFor_of_name pn15) #[SR a1, SN, SU, SU, SU] (fun _ => rfl) fun Q k => ?_
  exact jLa d49_0 rfl (jgF 130 f3 d49_1 (jta d49_4 #[SR a1, SN, SR a2, SU, SU] rfl (jLa d49_5 rfl (jgF 141 f4 d49_6 (jti d49_9 #[SR a1, SN, SR a2, SI 0, SU] rfl (jkI 0 d49_10 rfl (jtI d49_11 #[SR a1, SN, SR a2, SI 0, SI 0] rfl (jnLa d49_13 rfl (jyN d49_14 (jLI d49_17 rfl (jLi d49_19 rfl (jcgeY 65 d49_20 (by decide) (jkI 0 d49_65 rfl (jrZ d49_66 (k _ _ ⟨rfl, rfl⟩)))))))))))))))
set_option maxRecDepth 65536 in
set_option maxHeartbeats 40000000 in
theorem rm19_3 {a1 a2 a3 a6 a9 : Addr} {p12 : Int32} {a15 : Addr} {k17 : ClassId} {a56 : Addr} (hw : HW a0 Z) (f4 : Fld Z h0 a2 cC18 "mode" cC3 (VR a3)) (f5 : Sta Z Z.heap cC2 "EXCLUSIVE" cC3 (VR a3)) (f7 : Fld Z h0 a2 cC18 "transaction" cC10 (VR a6)) (f8 : Exa Z h0 a1 cC8) (f10 : Fld Z h0 a1 cC8 "others" cC11 (VR a9)) (f11 : Exa Z h0 a9 cC21) (f13 : Fld Z h0 a9 cC22 "modCount" "I" (VI p12)) (f14 : Fld Z h0 a9 cC21 "size" "I" (VI 1)) (f16 : Fld Z h0 a9 cC21 "elementData" cC1 (VR a15)) (f18 : Arv Z h0 a15 k17 (.object "java/lang/Object") 2 [VR a2, .null] (.null)) (f19 : Exa Z h0 a2 cC18) (f20 : Fld Z h0 a2 cC18 "granted" "Z" (VI 0)) (f24 : Fld Z h0 a1 cC8 "exclusive" cC10 (.null)) (f26 : Z.heap.size ≤ a1) (f31 : a9 ≠ a1) (f34 : a15 ≠ a1) (f38 : a15 ≠ a9) (f39 : Exa Z h0 a15 cC1) (f41 : Z.heap.size ≤ a9) (f42 : Z.heap.size ≤ a15) (f47 : a2 ≠ a1) (f48 : a2 ≠ a15) (f49 : a2 ≠ a9) (f51 : Z.heap.size ≤ a2) (f57 : Fld Z h0 a1 cC8 "key" cC9 (VR a56)) (f59 : Fld Z h0 a1 cC8 "version" cC1 (.null)) (f70 : Fld Z h0 a2 cC18 "row" cC19 (VR a1)) (f72 : Fld Z h0 a2 cC18 "first" "Z" (VI 1)) :
    own_M l Z h0 yM22 c19 3 none 4 1 4 54 #[VR a1, VR a2] (fun v h => v = none ∧ Keep h0 h [a1, a9, a15, a2] ∧ Exa Z h a1 cC8 ∧ Fld Z h a1 cC8 "others" cC11 (VR a9) ∧ Fld Z h a1 cC8 "exclusive" cC10 (VR a6) ∧ Fld Z h a1 cC8 "key" cC9 (VR a56) ∧ Fld Z h a1 cC8 "version" cC1 (.null) ∧ Exa Z h a9 cC21 ∧ Fld Z h a9 cC22 "modCount" "I" (VI (p12 + (1 : Int32))) ∧ Fld Z h a9 cC21 "size" "I" (VI 0) ∧ Fld Z h a9 cC21 "elementData" cC1 (VR a15) ∧ Exa Z h a15 cC1 ∧ Arv Z h a15 k17 (.object "java/lang/Object") 2 [.null, .null] (.null) ∧ Fld Z h a2 cC18 "mode" cC3 (VR a3) ∧ Fld Z h a2 cC18 "transaction" cC10 (VR a6) ∧ Exa Z h a2 cC18 ∧ Fld Z h a2 cC18 "granted" "Z" (VI 1) ∧ Fld Z h a2 cC18 "row" cC19 (VR a1) ∧ Fld Z h a2 cC18 "first" "Z" (VI 1)) := by
  refine own_ent hw (plainFor_of_name pn2) #[SR a1, SR a2, SU] (fun _ => rfl) fun Q k => ?_
  refine jLa d19_0 rfl (jgR 147 f4 d19_1 (jgS 148 f5 d19_4 (jac 10 d19_7 (decide_eq_true rfl) (jLa d19_10 rfl (jLa d19_11 rfl (jgR 236 f7 d19_12 (jcP 0 82 4 84 83 5 85 (rm11_8 hw f10 f11 f13 f14 f16 f18 f19 f20) f8 pd6 d19_15 rfl ?_)))))))
  rintro _ h21 ⟨rfl, K21⟩
  have F22 := f7.keep K21 nin0
  have F23 := f8.keep K21
  refine jnta d19_18 #[SR a1, SR a2, SN] rfl (jLa d19_19 rfl (jLa d19_20 rfl (jgR 236 F22 d19_21 (jpFR 66 67 4 (f24.keep K21 nin0) F23 f26 d19_24 fun h27 W27 F27 => ?_))))
  have F29 := fS (f10.keep K21 nin0) W27 (lA hw 69) (lA hw 67)
  have F30 := (f11.keep K21).wr W27
  have F36 := (f19.keep K21).wr W27
  refine jLa d19_27 rfl (jgF 68 F29 d19_28 (jzN d19_31 (jLa d19_34 rfl (jgF 68 F29 d19_35 (jLa d19_38 rfl (jcF 0 371 372 373 374 375 376 377 139 110 378 (rm49_1 hw (fW (f16.keep K21 nin0) W27 f31) (fW (f14.keep K21 nin0) W27 f31) ((f18.keep K21 nin0).other W27 f34) F36 F30 (fW (f13.keep K21 nin0) W27 f31) f41 f38 f42 ((f39.keep K21).wr W27)) F30 pd14 d19_39 rfl ?_))))))
  rintro _ h43 ⟨rfl, K43, o0_43, o1_43, o2_43, o3_43, o4_43, o5_43⟩
  have F44 := F29.keep K43 (ninS f31.symm (ninS f34.symm nin0))
  refine jpO d19_44 rfl (jLa d19_45 rfl (jgF 68 F44 d19_46 (jnLa d19_49 rfl (jcF 0 371 372 373 374 375 376 377 139 110 378 (rm49_4 hw o3_43 o2_43) o0_43 pd14 d19_50 rfl ?_))))
  rintro _ _ ⟨rfl, rfl⟩
  have F46 := F36.keep K43
  refine jpO d19_55 rfl (jgo 90 d19_56 (jLa d19_90 rfl (jkI 1 d19_91 rfl (jpRZ 175 176 76 ((fW (f20.keep K21 nin0) W27 f47).keep K43 (ninS f49 (ninS f48 nin0))) F46 f51 d19_92 fun h52 W52 F52 => ?_))))
  exact jrV d19_95 (k _ _ ⟨rfl, (((((Keep.refl h0 [a1, a9, a15, a2]).trans K21 all0).wr W27 (mI 0)).trans K43 (allS (mI 1) (allS (mI 2) all0))).wr W52 (mI 3)), (((F23.wr W27).keep K43).wr W52), (fW F44 W52 f47.symm), (fW (F27.keep K43 (ninS f31.symm (ninS f34.symm nin0))) W52 f47.symm), (fW ((fS (f57.keep K21 nin0) W27 (lB hw 21) (lA hw 67)).keep K43 (ninS f31.symm (ninS f34.symm nin0))) W52 f47.symm), (fW ((fS (f59.keep K21 nin0) W27 (lA hw 419) (lA hw 67)).keep K43 (ninS f31.symm (ninS f34.symm nin0))) W52 f47.symm), (o0_43.wr W52), (fW o1_43 W52 f49.symm), (fW o2_43 W52 f49.symm), (fW o3_43 W52 f49.symm), (o4_43.wr W52), (o5_43.other W52 f48.symm), (fS ((fW (f4.keep K21 nin0) W27 f47).keep K43 (ninS f49 (ninS f48 nin0))) W52 (lB hw 95) (lA hw 176)), (fS ((fW F22 W27 f47).keep K43 (ninS f49 (ninS f48 nin0))) W52 (lB hw 93) (lA hw 176)), (F46.wr W52), F52, (fS ((fW (f70.keep K21 nin0) W27 f47).keep K43 (ninS f49 (ninS f48 nin0))) W52 (lB hw 91) (lA hw 176)), (fS ((fW (f72.keep K21 nin0) W27 f47).keep K43 (ninS f49 (ninS f48 nin0))) W52 (lB hw 97) (lA hw 176))⟩)
set_option maxRecDepth 65536 in
set_option maxHeartbeats 40000000 in
theorem rm24_5 {a1 a2 a11 a14 : Addr} (hw : HW a0 Z) (f3 : Fld Z h0 a1 cC8 "others" cC11 (VR a2)) (f4 : Exa Z h0 a2 cC21) (f5 : Fld Z h0 a2 cC21 "size" "I" (VI 0)) (f7 : Exa Z h0 a1 cC8) (f8 : Z.heap.size ≤ a1) (f12 : Fld Z h0 a1 cC8 "exclusive" cC10 (VR a11)) (f15 : Fld Z h0 a1 cC8 "key" cC9 (VR a14)) (f17 : Fld Z h0 a1 cC8 "version" cC1 (.null)) :
    own_M l Z h0 yM23 c24 1 none 1 0 0 12 #[VR a1] (fun v h => v = none ∧ Keep h0 h [a1] ∧ Fld Z h a1 cC8 "others" cC11 (.null) ∧ Exa Z h a1 cC8 ∧ Fld Z h a1 cC8 "exclusive" cC10 (VR a11) ∧ Fld Z h a1 cC8 "key" cC9 (VR a14) ∧ Fld Z h a1 cC8 "version" cC1 (.null)) := by
  refine own_ent hw (plainFor_of_name pn2) #[SR a1] (fun _ => rfl) fun Q k => ?_
  refine jLa d24_0 rfl (jgF 68 f3 d24_1 (jzN d24_4 (jLa d24_7 rfl (jgF 68 f3 d24_8 (jcF 0 132 133 134 135 136 137 138 139 110 140 (rm18_1 hw f5) f4 pd5 d24_11 rfl ?_)))))
  rintro _ _ ⟨rfl, rfl⟩
  refine jieqN d24_16 (by decide) (jLa d24_19 rfl (jkN d24_20 (jpFN 68 69 4 f3 f7 f8 d24_21 fun h9 W9 F9 => ?_)))
  exact jrV d24_24 (k _ _ ⟨rfl, ((Keep.refl h0 [a1]).wr W9 (mI 0)), F9, (f7.wr W9), (fS f12 W9 (lA hw 67) (lA hw 69)), (fS f15 W9 (lB hw 21) (lA hw 69)), (fS f17 W9 (lA hw 419) (lA hw 69))⟩)
set_option maxRecDepth 65536 in
set_option maxHeartbeats 40000000 in
theorem rm31_5 {a1 a2 a6 a9 : Addr} {k11 : ClassId} {a12 a15 a31 a45 a49 : Addr} {p54 : Int32} {a74 : Addr} (hw : HW a0 Z) (f3 : Fld Z h0 a1 cC8 "others" cC11 (VR a2)) (f4 : Exa Z h0 a2 cC21) (f5 : Fld Z h0 a2 cC21 "size" "I" (VI 1)) (f7 : Fld Z h0 a2 cC21 "elementData" cC1 (VR a6)) (f8 : Exa Z h0 a6 cC1) (f10 : own_Mir Z cC1 a9) (f13 : Arv Z h0 a6 k11 (.object "java/lang/Object") 2 [VR a12, .null] (.null)) (f14 : Exa Z h0 a12 cC18) (f16 : Sta Z Z.heap cC34 "EMPTY" cC9 (VR a15)) (f26 : Fld Z h0 a12 cC18 "granted" "Z" (VI 0)) (f29 : Exa Z h0 a1 cC8) (f32 : Sta Z Z.heap cC21 "DEFAULTCAPACITY_EMPTY_ELEMENTDATA" cC1 (VR a31)) (f33 : Fld Z h0 a1 cC8 "exclusive" cC10 (.null)) (f46 : Fld Z h0 a12 cC18 "mode" cC3 (VR a45)) (f48 : Sta Z Z.heap cC2 "EXCLUSIVE" cC3 (VR a45)) (f50 : Fld Z h0 a12 cC18 "transaction" cC10 (VR a49)) (f55 : Fld Z h0 a2 cC22 "modCount" "I" (VI p54)) (f63 : Z.heap.size ≤ a1) (f64 : a2 ≠ a1) (f65 : a6 ≠ a1) (f66 : a6 ≠ a2) (f68 : Z.heap.size ≤ a2) (f69 : Z.heap.size ≤ a6) (f70 : a12 ≠ a1) (f71 : a12 ≠ a6) (f72 : a12 ≠ a2) (f73 : Z.heap.size ≤ a12) (f75 : Fld Z h0 a1 cC8 "key" cC9 (VR a74)) (f77 : Fld Z h0 a1 cC8 "version" cC1 (.null)) (f79 : Fld Z h0 a12 cC18 "row" cC19 (VR a1)) (f81 : Fld Z h0 a12 cC18 "first" "Z" (VI 1)) :
    own_M l Z h0 yM48 c31 4 (some .boolean) 8 5 14 100 #[VR a1] (fun v h => v = some (VI 1) ∧ Keep h0 h [a1, a2, a6, a12] ∧ Exa Z h a1 cC8 ∧ Fld Z h a1 cC8 "others" cC11 (.null) ∧ Fld Z h a1 cC8 "exclusive" cC10 (VR a49) ∧ Fld Z h a1 cC8 "key" cC9 (VR a74) ∧ Fld Z h a1 cC8 "version" cC1 (.null) ∧ Exa Z h a2 cC21 ∧ Fld Z h a2 cC22 "modCount" "I" (VI (p54 + (1 : Int32))) ∧ Fld Z h a2 cC21 "size" "I" (VI 0) ∧ Fld Z h a2 cC21 "elementData" cC1 (VR a6) ∧ Exa Z h a6 cC1 ∧ Arv Z h a6 k11 (.object "java/lang/Object") 2 [.null, .null] (.null) ∧ Exa Z h a12 cC18 ∧ Fld Z h a12 cC18 "mode" cC3 (VR a45) ∧ Fld Z h a12 cC18 "transaction" cC10 (VR a49) ∧ Fld Z h a12 cC18 "granted" "Z" (VI 1) ∧ Fld Z h a12 cC18 "row" cC19 (VR a1) ∧ Fld Z h a12 cC18 "first" "Z" (VI 1)) := by
  refine own_ent hw (plainFor_of_name pn2) #[SR a1, SU, SU, SU] (fun _ => rfl) fun Q k => ?_
  refine own_z fun Z0 => ?_
  refine jkI 0 d31_0 rfl (jti d31_1 #[SR a1, SI 0, SU, SU] rfl (jLa d31_2 rfl (jgF 68 f3 d31_3 (jzN d31_6 (jLa d31_9 rfl (jgF 68 f3 d31_10 (jcS 0 241 242 243 244 (rm32_1 hw f4 f5 f7 f8 f10 f13 f14 f16) pd26 d31_13 rfl ?_)))))))
  rintro _ h17 ⟨b5_17_15_17, rfl, K17, lob5_17_15_17, o0_17, o1_17, o2_17⟩
  refine jcF 0 186 187 188 324 325 326 327 328 305 329 (rm43_1 hw o0_17 o2_17 f16) o0_17 pd18 d31_16 rfl ?_
  rintro _ h18 ⟨b2_18, rfl, K18, lob2_18, o0_18, o1_18, o2_18, o3_18, o4_18⟩
  refine jta d31_21 #[SR a1, SI 0, SR b2_18, SU] rfl (jLa d31_22 rfl (jcF 0 209 210 211 352 353 354 355 356 332 357 (rm46_1 hw o3_18 o2_18) o0_18 pd5 d31_23 rfl ?_))
  rintro _ _ ⟨rfl, rfl⟩
  have z23 := K17.1
  refine jieqN d31_28 (by decide) (jLa d31_31 rfl (jcG 0 221 222 223 358 359 360 361 356 332 362 (rm47_1 hw o3_18 o1_18 (o0_17.keep K18) (o1_17.keep K18 nin0) o0_18 (Nat.le_trans Z0 (Nat.le_trans z23 lob2_18)) o2_18 o4_18) o0_18 pd19 d31_32 rfl ?_))
  rintro _ h24 ⟨rfl, K24, o0_24, o1_24, o2_24, o3_24, o4_24⟩
  have F25 := ((f14.keep K17).keep K18).keep K24
  have v27 := own_lo f14.lt (Nat.le_trans z23 lob2_18)
  have F28 := ((f26.keep K17 nin0).keep K18 nin0).keep K24 (ninS v27 nin0)
  have F30 := ((f29.keep K17).keep K18).keep K24
  have v34 := own_lo f3.lt (Nat.le_trans z23 lob2_18)
  have F35 := ((f33.keep K17 nin0).keep K18 nin0).keep K24 (ninS v34 nin0)
  have F36 := ((f3.keep K17 nin0).keep K18 nin0).keep K24 (ninS v34 nin0)
  have F37 := ((f4.keep K17).keep K18).keep K24
  have v38 := own_lo f4.lt (Nat.le_trans z23 lob2_18)
  have F39 := ((f5.keep K17 nin0).keep K18 nin0).keep K24 (ninS v38 nin0)
  have F40 := ((f7.keep K17 nin0).keep K18 nin0).keep K24 (ninS v38 nin0)
  have v41 := own_lo f8.lt (Nat.le_trans z23 lob2_18)
  have F42 := ((f13.keep K17 nin0).keep K18 nin0).keep K24 (ninS v41 nin0)
  refine jcY 75 (Ins.self F25) d31_37 (jta d31_40 #[SR a1, SI 0, SR b2_18, SR a12] rfl (jLa d31_41 rfl (jgR 175 F28 d31_42 (jineN d31_45 (by decide) (jLa d31_48 rfl (jLa d31_49 rfl (jcP 0 99 4 101 100 5 102 (rm13_5 hw F30 f32 F35 F36 F37 F39 F40 F42 F25) F30 pd10 d31_50 rfl ?_)))))))
  rintro _ h43 ⟨rfl, K43⟩
  have F44 := F30.keep K43
  refine jieqN d31_53 (by decide) (jLa d31_56 rfl (jLa d31_57 rfl (jcP 0 143 4 145 144 5 146 (rm19_3 hw ((((f46.keep K17 nin0).keep K18 nin0).keep K24 (ninS v27 nin0)).keep K43 nin0) f48 ((((f50.keep K17 nin0).keep K18 nin0).keep K24 (ninS v27 nin0)).keep K43 nin0) F44 (F36.keep K43 nin0) (F37.keep K43) ((((f55.keep K17 nin0).keep K18 nin0).keep K24 (ninS v38 nin0)).keep K43 nin0) (F39.keep K43 nin0) (F40.keep K43 nin0) (F42.keep K43 nin0) (F25.keep K43) (F28.keep K43 nin0) (F35.keep K43 nin0) f63 f64 f65 f66 ((((f8.keep K17).keep K18).keep K24).keep K43) f68 f69 f70 f71 f72 f73 ((((f75.keep K17 nin0).keep K18 nin0).keep K24 (ninS v34 nin0)).keep K43 nin0) ((((f77.keep K17 nin0).keep K18 nin0).keep K24 (ninS v34 nin0)).keep K43 nin0) ((((f79.keep K17 nin0).keep K18 nin0).keep K24 (ninS v27 nin0)).keep K43 nin0) ((((f81.keep K17 nin0).keep K18 nin0).keep K24 (ninS v27 nin0)).keep K43 nin0)) F44 pd15 d31_58 rfl ?_)))
  rintro _ h83 ⟨rfl, K83, o0_83, o1_83, o2_83, o3_83, o4_83, o5_83, o6_83, o7_83, o8_83, o9_83, o10_83, o11_83, o12_83, o13_83, o14_83, o15_83, o16_83⟩
  refine jkI 1 d31_61 rfl (jti d31_62 #[SR a1, SI 1, SR b2_18, SR a12] rfl (jgo 22 d31_63 (jLa d31_22 rfl (jcF 0 209 210 211 352 353 354 355 356 332 357 (rm46_2 hw ((o0_24.keep K43 nin0).keep K83 (ninS v34.symm (ninS v38.symm (ninS v41.symm (ninS v27.symm nin0))))) ((o3_24.keep K43 nin0).keep K83 (ninS v34.symm (ninS v38.symm (ninS v41.symm (ninS v27.symm nin0)))))) ((o2_24.keep K43).keep K83) pd5 d31_23 rfl ?_))))
  rintro _ _ ⟨rfl, rfl⟩
  refine jieqY 66 d31_28 (by decide) (jLa d31_66 rfl (jcP 0 177 4 179 178 5 180 (rm24_5 hw o1_83 o5_83 o7_83 o0_83 f63 o2_83 o3_83 o4_83) o0_83 pd0 d31_67 rfl ?_))
  rintro _ h88 ⟨rfl, K88, o0_88, o1_88, o2_88, o3_88, o4_88⟩
  exact jLi d31_70 rfl (jrZ d31_71 (k _ _ ⟨rfl, (((((((Keep.refl h0 [a1, a2, a6, a12]).trans K17 all0).trans K18 all0).trans K24 (allS (Or.inr (Nat.le_trans z23 lob2_18)) all0)).trans K43 all0).trans K83 (allS (mI 0) (allS (mI 1) (allS (mI 2) (allS (mI 3) all0))))).trans K88 (allS (mI 0) all0)), o1_88, o0_88, o2_88, o3_88, o4_88, (o5_83.keep K88), (o6_83.keep K88 (ninS f64 nin0)), (o7_83.keep K88 (ninS f64 nin0)), (o8_83.keep K88 (ninS f64 nin0)), (o9_83.keep K88), (o10_83.keep K88 (ninS f65 nin0)), (o13_83.keep K88), (o11_83.keep K88 (ninS f70 nin0)), (o12_83.keep K88 (ninS f70 nin0)), (o14_83.keep K88 (ninS f70 nin0)), (o15_83.keep K88 (ninS f70 nin0)), (o16_83.keep K88 (ninS f70 nin0))⟩))
set_option maxRecDepth 65536 in
set_option maxHeartbeats 40000000 in
theorem rm25_7 {a1 a2 a5 : Addr} {p8 : Int32} {a11 : Addr} {k13 : ClassId} {a14 a15 a20 a45 a48 a53 a56 a60 a66 : Addr} (hw : HW a0 Z) (f3 : Fld Z h0 a1 cC8 "exclusive" cC10 (.null)) (f4 : Exa Z h0 a1 cC8) (f6 : Fld Z h0 a1 cC8 "others" cC11 (VR a5)) (f7 : Exa Z h0 a5 cC21) (f9 : Fld Z h0 a5 cC22 "modCount" "I" (VI p8)) (f10 : Fld Z h0 a5 cC21 "size" "I" (VI 2)) (f12 : Fld Z h0 a5 cC21 "elementData" cC1 (VR a11)) (f16 : Arv Z h0 a11 k13 (.object "java/lang/Object") 2 [VR a14, VR a15] (.null)) (f17 : Exa Z h0 a14 cC18) (f18 : Fld Z h0 a14 cC18 "granted" "Z" (VI 1)) (f19 : Fld Z h0 a14 cC18 "transaction" cC10 (VR a2)) (f21 : Fld Z h0 a14 cC18 "mode" cC3 (VR a20)) (f22 : Sta Z Z.heap cC2 "SHARED" cC3 (VR a20)) (f23 : Exa Z h0 a15 cC18) (f24 : Fld Z h0 a15 cC18 "granted" "Z" (VI 0)) (f33 : a11 ≠ a5) (f34 : Ovr Z k13 cC24) (f36 : Exa Z h0 a11 cC1) (f38 : Z.heap.size ≤ a5) (f39 : Z.heap.size ≤ a11) (f42 : a1 ≠ a11) (f43 : a1 ≠ a5) (f46 : own_Mir Z cC1 a45) (f49 : Sta Z Z.heap cC34 "EMPTY" cC9 (VR a48)) (f50 : a15 ≠ a11) (f51 : a15 ≠ a5) (f54 : Sta Z Z.heap cC21 "DEFAULTCAPACITY_EMPTY_ELEMENTDATA" cC1 (VR a53)) (f57 : Fld Z h0 a15 cC18 "mode" cC3 (VR a56)) (f59 : Sta Z Z.heap cC2 "EXCLUSIVE" cC3 (VR a56)) (f61 : Fld Z h0 a15 cC18 "transaction" cC10 (VR a60)) (f63 : Z.heap.size ≤ a1) (f64 : a15 ≠ a1) (f65 : Z.heap.size ≤ a15) (f67 : Fld Z h0 a1 cC8 "key" cC9 (VR a66)) (f69 : Fld Z h0 a1 cC8 "version" cC1 (.null)) (f71 : Fld Z h0 a15 cC18 "row" cC19 (VR a1)) (f73 : Fld Z h0 a15 cC18 "first" "Z" (VI 1)) :
    own_M l Z h0 yM49 c25 3 (some .boolean) 9 6 18 115 #[VR a1, VR a2] (fun v h => v = some (VI 1) ∧ Keep h0 h [a5, a11, a1, a15] ∧ Exa Z h a5 cC21 ∧ Fld Z h a5 cC22 "modCount" "I" (VI ((p8 + (1 : Int32)) + (1 : Int32))) ∧ Fld Z h a5 cC21 "size" "I" (VI 0) ∧ Fld Z h a5 cC21 "elementData" cC1 (VR a11) ∧ Exa Z h a11 cC1 ∧ Arv Z h a11 k13 (.object "java/lang/Object") 2 [.null, .null] (.null) ∧ Exa Z h a1 cC8 ∧ Fld Z h a1 cC8 "others" cC11 (.null) ∧ Fld Z h a1 cC8 "exclusive" cC10 (VR a60) ∧ Fld Z h a1 cC8 "key" cC9 (VR a66) ∧ Fld Z h a1 cC8 "version" cC1 (.null) ∧ Exa Z h a15 cC18 ∧ Fld Z h a15 cC18 "mode" cC3 (VR a56) ∧ Fld Z h a15 cC18 "transaction" cC10 (VR a60) ∧ Fld Z h a15 cC18 "granted" "Z" (VI 1) ∧ Fld Z h a15 cC18 "row" cC19 (VR a1) ∧ Fld Z h a15 cC18 "first" "Z" (VI 1)) := by
  refine own_ent hw (plainFor_of_name pn2) #[SR a1, SR a2, SU] (fun _ => rfl) fun Q k => ?_
  refine jLa d25_0 rfl (jgF 66 f3 d25_1 (jLa d25_4 rfl (jac 18 d25_5 (decide_eq_false nofun) (jLa d25_18 rfl (jLa d25_19 rfl (jcP 0 82 4 84 83 5 85 (rm11_7 hw f6 f7 f9 f10 f12 f16 f17 f18 f19 f21 f22 f23 f24) f4 pd6 d25_20 rfl ?_))))))
  rintro _ h25 ⟨rfl, K25⟩
  have F26 := f6.keep K25 nin0
  have F27 := f7.keep K25
  have F35 := f23.keep K25
  refine jta d25_23 #[SR a1, SR a2, SR a14] rfl (jLa d25_24 rfl (jzN d25_25 (jLa d25_28 rfl (jgF 68 F26 d25_29 (jLa d25_32 rfl (jcF 0 371 372 373 374 375 376 377 139 110 378 (rm49_3 hw (f12.keep K25 nin0) (f10.keep K25 nin0) (f16.keep K25 nin0) (f17.keep K25) F27 (f9.keep K25 nin0) f38 f33 f34 F35 f39 (f36.keep K25)) F27 pd14 d25_33 rfl ?_))))))
  rintro _ h40 ⟨rfl, K40, o0_40, o1_40, o2_40, o3_40, o4_40, o5_40⟩
  have F41 := (f4.keep K25).keep K40
  refine jpO d25_38 rfl (jLa d25_39 rfl (jcP 0 237 4 239 238 5 240 (rm31_5 hw (F26.keep K40 (ninS f43 (ninS f42 nin0))) o0_40 o2_40 o3_40 o4_40 f46 o5_40 (F35.keep K40) f49 ((f24.keep K25 nin0).keep K40 (ninS f51 (ninS f50 nin0))) F41 f54 ((f3.keep K25 nin0).keep K40 (ninS f43 (ninS f42 nin0))) ((f57.keep K25 nin0).keep K40 (ninS f51 (ninS f50 nin0))) f59 ((f61.keep K25 nin0).keep K40 (ninS f51 (ninS f50 nin0))) o1_40 f63 f43.symm f42.symm f33 f38 f39 f64 f50 f51 f65 ((f67.keep K25 nin0).keep K40 (ninS f43 (ninS f42 nin0))) ((f69.keep K25 nin0).keep K40 (ninS f43 (ninS f42 nin0))) ((f71.keep K25 nin0).keep K40 (ninS f51 (ninS f50 nin0))) ((f73.keep K25 nin0).keep K40 (ninS f51 (ninS f50 nin0)))) F41 pd5 d25_40 rfl ?_))
  rintro _ h75 ⟨rfl, K75, o0_75, o1_75, o2_75, o3_75, o4_75, o5_75, o6_75, o7_75, o8_75, o9_75, o10_75, o11_75, o12_75, o13_75, o14_75, o15_75, o16_75⟩
  exact jrZ d25_43 (k _ _ ⟨rfl, ((((Keep.refl h0 [a5, a11, a1, a15]).trans K25 all0).trans K40 (allS (mI 0) (allS (mI 1) all0))).trans K75 (allS (mI 2) (allS (mI 0) (allS (mI 1) (allS (mI 3) all0))))), o5_75, o6_75, o7_75, o8_75, o9_75, o10_75, o0_75, o1_75, o2_75, o3_75, o4_75, o11_75, o12_75, o13_75, o14_75, o15_75, o16_75⟩)
set_option maxRecDepth 65536 in
set_option maxHeartbeats 40000000 in
theorem rm25_8 {a1 a2 a17 : Addr} (hw : HW a0 Z) (f3 : Fld Z h0 a1 cC8 "exclusive" cC10 (VR a2)) (f4 : Exa Z h0 a1 cC8) (f5 : Z.heap.size ≤ a1) (f8 : Fld Z h0 a1 cC8 "version" cC1 (.null)) (f12 : Fld Z h0 a1 cC8 "others" cC11 (.null)) (f18 : Fld Z h0 a1 cC8 "key" cC9 (VR a17)) :
    own_M l Z h0 yM49 c25 3 (some .boolean) 2 0 0 27 #[VR a1, VR a2] (fun v h => v = some (VI 0) ∧ Keep h0 h [a1] ∧ Fld Z h a1 cC8 "exclusive" cC10 (.null) ∧ Exa Z h a1 cC8 ∧ Fld Z h a1 cC8 "version" cC1 (.null) ∧ Fld Z h a1 cC8 "others" cC11 (.null) ∧ Fld Z h a1 cC8 "key" cC9 (VR a17)) := by
  refine own_ent hw (plainFor_of_name pn2) #[SR a1, SR a2, SU] (fun _ => rfl) fun Q k => ?_
  refine jLa d25_0 rfl (jgF 66 f3 d25_1 (jLa d25_4 rfl (jac 8 d25_5 (decide_eq_true rfl) (jLa d25_8 rfl (jkN d25_9 (jpFN 66 67 4 f3 f4 f5 d25_10 fun h6 W6 F6 => ?_))))))
  have F7 := f4.wr W6
  refine jLa d25_13 rfl (jkN d25_14 (jpFN 418 419 4 (fS f8 W6 (lA hw 419) (lA hw 67)) F7 f5 d25_15 fun h10 W10 F10 => ?_))
  have F11 := F7.wr W10
  have F13 := fS (fS f12 W6 (lA hw 69) (lA hw 67)) W10 (lA hw 69) (lA hw 419)
  refine jLa d25_18 rfl (jLa d25_19 rfl (jcP 0 82 4 84 83 5 85 (rm11_1 hw F13) F11 pd6 d25_20 rfl ?_))
  rintro _ _ ⟨rfl, rfl⟩
  refine jnta d25_23 #[SR a1, SR a2, SN] rfl (jnLa d25_24 rfl (jzY 39 d25_25 (jLa d25_39 rfl (jcP 0 237 4 239 238 5 240 (rm31_3 hw F13 F11) F11 pd5 d25_40 rfl ?_))))
  rintro _ _ ⟨rfl, rfl⟩
  exact jrZ d25_43 (k _ _ ⟨rfl, (((Keep.refl h0 [a1]).wr W6 (mI 0)).wr W10 (mI 0)), (fS F6 W10 (lA hw 67) (lA hw 419)), F11, F10, F13, (fS (fS f18 W6 (lB hw 21) (lA hw 67)) W10 (lB hw 21) (lA hw 419))⟩)
set_option maxRecDepth 65536 in
set_option maxHeartbeats 40000000 in
theorem tl46 {D0_ D1_ D2_ D3_ D4_ D5_ D6_ D7_ D8_ : Slot} {A10_ A11_ A12_ : Addr} {D14_ D15_ D16_ D17_ : Slot} {A17_ : Addr} {P18_ : Int32} {A19_ : Addr} {KK20_ : ClassId} {A21_ A22_ A23_ A24_ A25_ A26_ A27_ A28_ : Addr} (hw : HW a0 Z) (fm1_ : Exa Z h0 A10_ cC8) (fm2_ : Fld Z h0 A10_ cC8 "exclusive" cC10 (.null)) (fm3_ : Fld Z h0 A10_ cC8 "others" cC11 (VR A17_)) (fm4_ : Exa Z h0 A17_ cC21) (fm5_ : Fld Z h0 A17_ cC22 "modCount" "I" (VI P18_)) (fm6_ : Fld Z h0 A17_ cC21 "size" "I" (VI 2)) (fm7_ : Fld Z h0 A17_ cC21 "elementData" cC1 (VR A19_)) (fm8_ : Arv Z h0 A19_ KK20_ (.object "java/lang/Object") 2 [VR A21_, VR A22_] (.null)) (fm9_ : Exa Z h0 A21_ cC18) (fm10_ : Fld Z h0 A21_ cC18 "granted" "Z" (VI 1)) (fm11_ : Fld Z h0 A21_ cC18 "transaction" cC10 (VR A11_)) (fm12_ : Fld Z h0 A21_ cC18 "mode" cC3 (VR A23_)) (fm13_ : Sta Z Z.heap cC2 "SHARED" cC3 (VR A23_)) (fm14_ : Exa Z h0 A22_ cC18) (fm15_ : Fld Z h0 A22_ cC18 "granted" "Z" (VI 0)) (fm16_ : A19_ ≠ A17_) (fm17_ : Ovr Z KK20_ cC24) (fm18_ : Exa Z h0 A19_ cC1) (fm19_ : Z.heap.size ≤ A17_) (fm20_ : Z.heap.size ≤ A19_) (fm21_ : A10_ ≠ A19_) (fm22_ : A10_ ≠ A17_) (fm23_ : own_Mir Z cC1 A24_) (fm24_ : Sta Z Z.heap cC34 "EMPTY" cC9 (VR A25_)) (fm25_ : A22_ ≠ A19_) (fm26_ : A22_ ≠ A17_) (fm27_ : Sta Z Z.heap cC21 "DEFAULTCAPACITY_EMPTY_ELEMENTDATA" cC1 (VR A26_)) (fm28_ : Fld Z h0 A22_ cC18 "mode" cC3 (VR A27_)) (fm29_ : Sta Z Z.heap cC2 "EXCLUSIVE" cC3 (VR A27_)) (fm30_ : Fld Z h0 A22_ cC18 "transaction" cC10 (VR A12_)) (fm31_ : Z.heap.size ≤ A10_) (fm32_ : A22_ ≠ A10_) (fm33_ : Z.heap.size ≤ A22_) (fm34_ : Fld Z h0 A10_ cC8 "key" cC9 (VR A28_)) (fm35_ : Fld Z h0 A10_ cC8 "version" cC1 (.null)) (fm36_ : Fld Z h0 A22_ cC18 "row" cC19 (VR A10_)) (fm37_ : Fld Z h0 A22_ cC18 "first" "Z" (VI 1)) :
    own_T l Z a0 A h0 21 102 303 #[D0_, D1_, D2_, D3_, D4_, D5_, D6_, D7_, D8_, SR A10_, SR A11_, SR A12_, SI 1, SI 0, D14_, D15_, D16_, D17_, SI 0, SI 0, SU] := by
  refine jLA at_303 rfl (jLA at_305 rfl (jcV 0 181 182 184 183 5 185 (nfS hw 184) (rm25_7 hw fm2_ fm1_ fm3_ fm4_ fm5_ fm6_ fm7_ fm8_ fm9_ fm10_ fm11_ fm12_ fm13_ fm14_ fm15_ fm16_ fm17_ fm18_ fm19_ fm20_ fm21_ fm22_ fm23_ fm24_ fm25_ fm26_ fm27_ fm28_ fm29_ fm30_ fm31_ fm32_ fm33_ fm34_ fm35_ fm36_ fm37_) fm1_ pd7 at_307 rfl ?_))
  rintro _ h1 ⟨rfl, K1, o0_1, o1_1, o2_1, o3_1, o4_1, o5_1, o6_1, o7_1, o8_1, o9_1, o10_1, o11_1, o12_1, o13_1, o14_1, o15_1, o16_1⟩
  refine jpO at_310 rfl (jLA at_311 rfl (jLA at_313 rfl (jcV 0 181 182 184 183 5 185 (nfS hw 184) (rm25_8 hw o8_1 o6_1 fm31_ o10_1 o7_1 o9_1) o6_1 pd7 at_315 rfl ?_)))
  rintro _ h2 ⟨rfl, K2, o0_2, o1_2, o2_2, o3_2, o4_2⟩
  exact jpO at_318 rfl (own_mono (tl16 hw o1_2 o0_2 o3_2))
set_option maxRecDepth 65536 in
set_option maxHeartbeats 40000000 in
theorem tl45 {D0_ D1_ D2_ D3_ D4_ D5_ D6_ : Slot} {G7_ : Int32} {D8_ : Slot} {A10_ A11_ A12_ : Addr} {D14_ D16_ : Slot} {A15_ : Addr} {P16_ : Int32} {A17_ : Addr} {KK18_ : ClassId} {A19_ A20_ A21_ A22_ A23_ A24_ A25_ A26_ : Addr} (hw : HW a0 Z) (fm1_ : Exa Z h0 A10_ cC8) (fm2_ : Fld Z h0 A10_ cC8 "exclusive" cC10 (.null)) (fm3_ : Fld Z h0 A10_ cC8 "others" cC11 (VR A15_)) (fm4_ : G7_ = (0 : Int32)) (fm5_ : Exa Z h0 A15_ cC21) (fm6_ : Fld Z h0 A15_ cC22 "modCount" "I" (VI P16_)) (fm7_ : Fld Z h0 A15_ cC21 "size" "I" (VI 2)) (fm8_ : Fld Z h0 A15_ cC21 "elementData" cC1 (VR A17_)) (fm9_ : Arv Z h0 A17_ KK18_ (.object "java/lang/Object") 2 [VR A19_, VR A20_] (.null)) (fm10_ : Exa Z h0 A19_ cC18) (fm11_ : Fld Z h0 A19_ cC18 "granted" "Z" (VI 1)) (fm12_ : Fld Z h0 A19_ cC18 "transaction" cC10 (VR A11_)) (fm13_ : Fld Z h0 A19_ cC18 "mode" cC3 (VR A21_)) (fm14_ : Sta Z Z.heap cC2 "SHARED" cC3 (VR A21_)) (fm15_ : Exa Z h0 A20_ cC18) (fm16_ : Fld Z h0 A20_ cC18 "granted" "Z" (VI 0)) (fm17_ : A17_ ≠ A15_) (fm18_ : Ovr Z KK18_ cC24) (fm19_ : Exa Z h0 A17_ cC1) (fm20_ : Z.heap.size ≤ A15_) (fm21_ : Z.heap.size ≤ A17_) (fm22_ : A10_ ≠ A17_) (fm23_ : A10_ ≠ A15_) (fm24_ : own_Mir Z cC1 A22_) (fm25_ : Sta Z Z.heap cC34 "EMPTY" cC9 (VR A23_)) (fm26_ : A20_ ≠ A17_) (fm27_ : A20_ ≠ A15_) (fm28_ : Sta Z Z.heap cC21 "DEFAULTCAPACITY_EMPTY_ELEMENTDATA" cC1 (VR A24_)) (fm29_ : Fld Z h0 A20_ cC18 "mode" cC3 (VR A25_)) (fm30_ : Sta Z Z.heap cC2 "EXCLUSIVE" cC3 (VR A25_)) (fm31_ : Fld Z h0 A20_ cC18 "transaction" cC10 (VR A12_)) (fm32_ : Z.heap.size ≤ A10_) (fm33_ : A20_ ≠ A10_) (fm34_ : Z.heap.size ≤ A20_) (fm35_ : Fld Z h0 A10_ cC8 "key" cC9 (VR A26_)) (fm36_ : Fld Z h0 A10_ cC8 "version" cC1 (.null)) (fm37_ : Fld Z h0 A20_ cC18 "row" cC19 (VR A10_)) (fm38_ : Fld Z h0 A20_ cC18 "first" "Z" (VI 1)) :
    own_T l Z a0 A h0 21 102 274 #[D0_, D1_, D2_, D3_, D4_, D5_, D6_, SI G7_, D8_, SR A10_, SR A11_, SR A12_, SI 1, SI 0, D14_, SI 1, D16_, SI 0, SU, SU, SU] := by
  refine jLA at_274 rfl (jcV 0 61 62 64 63 5 65 (nfS hw 64) (rm8_2 hw fm2_ fm3_) fm1_ pd5 at_276 rfl ?_)
  rintro _ _ ⟨rfl, rfl⟩
  exact jtI at_279 #[D0_, D1_, D2_, D3_, D4_, D5_, D6_, SI G7_, D8_, SR A10_, SR A11_, SR A12_, SI 1, SI 0, D14_, SI 1, D16_, SI 0, SI 0, SU, SU] rfl (jLI at_281 rfl (jineN at_283 (by decide) (jLI at_286 rfl (jieqY 300 at_288 fm4_ (jkI 0 at_300 rfl (jtI at_301 #[D0_, D1_, D2_, D3_, D4_, D5_, D6_, SI G7_, D8_, SR A10_, SR A11_, SR A12_, SI 1, SI 0, D14_, SI 1, D16_, SI 0, SI 0, SI 0, SU] rfl (own_mono (tl46 hw fm1_ fm2_ fm3_ fm5_ fm6_ fm7_ fm8_ fm9_ fm10_ fm11_ fm12_ fm13_ fm14_ fm15_ fm16_ fm17_ fm18_ fm19_ fm20_ fm21_ fm22_ fm23_ fm24_ fm25_ fm26_ fm27_ fm28_ fm29_ fm30_ fm31_ fm32_ fm33_ fm34_ fm35_ fm36_ fm37_ fm38_))))))))
set_option maxRecDepth 65536 in
set_option maxHeartbeats 40000000 in
theorem rm8_3 {a1 a2 : Addr} (hw : HW a0 Z) (f3 : Fld Z h0 a1 cC8 "exclusive" cC10 (VR a2)) :
    own_M l Z h0 yM8 c8 1 (some .boolean) 0 0 0 0 #[VR a1] (fun v h => v = some (VI 0) ∧ h0 = h) := by
  refine own_ent hw (plainFor_of_name pn2) #[SR a1] (fun _ => rfl) fun Q k => ?_
  exact jLa d8_0 rfl (jgF 66 f3 d8_1 (jyY 18 d8_4 (jkI 0 d8_18 rfl (jrZ d8_19 (k _ _ ⟨rfl, rfl⟩)))))
set_option maxRecDepth 65536 in
set_option maxHeartbeats 40000000 in
theorem rm25_9 {a1 a2 a3 : Addr} (hw : HW a0 Z) (f4 : Fld Z h0 a1 cC8 "exclusive" cC10 (VR a3)) (f5 : a3 ≠ a2) (f6 : Exa Z h0 a1 cC8) (f7 : Fld Z h0 a1 cC8 "others" cC11 (.null)) :
    own_M l Z h0 yM49 c25 3 (some .boolean) 2 0 0 27 #[VR a1, VR a2] (fun v h => v = some (VI 0) ∧ h0 = h) := by
  refine own_ent hw (plainFor_of_name pn2) #[SR a1, SR a2, SU] (fun _ => rfl) fun Q k => ?_
  refine jLa d25_0 rfl (jgF 66 f4 d25_1 (jLa d25_4 rfl (jac 18 d25_5 (own_dn f5) (jLa d25_18 rfl (jLa d25_19 rfl (jcP 0 82 4 84 83 5 85 (rm11_1 hw f7) f6 pd6 d25_20 rfl ?_))))))
  rintro _ _ ⟨rfl, rfl⟩
  refine jnta d25_23 #[SR a1, SR a2, SN] rfl (jnLa d25_24 rfl (jzY 39 d25_25 (jLa d25_39 rfl (jcP 0 237 4 239 238 5 240 (rm31_3 hw f7 f6) f6 pd5 d25_40 rfl ?_))))
  rintro _ _ ⟨rfl, rfl⟩
  exact jrZ d25_43 (k _ _ ⟨rfl, rfl⟩)
set_option maxRecDepth 65536 in
set_option maxHeartbeats 40000000 in
theorem tl48 {D0_ D1_ D2_ D3_ D4_ D5_ D6_ D7_ D8_ : Slot} {A10_ A11_ A12_ : Addr} {D14_ D15_ D16_ D17_ : Slot} {A17_ : Addr} (hw : HW a0 Z) (fm1_ : Exa Z h0 A10_ cC8) (fm2_ : Fld Z h0 A10_ cC8 "exclusive" cC10 (VR A12_)) (fm3_ : A12_ ≠ A11_) (fm4_ : Fld Z h0 A10_ cC8 "others" cC11 (.null)) (fm5_ : Fld Z h0 A10_ cC8 "version" cC1 (.null)) (fm6_ : Fld Z h0 A10_ cC8 "key" cC9 (VR A17_)) (fm7_ : Z.heap.size ≤ A10_) :
    own_T l Z a0 A h0 21 102 303 #[D0_, D1_, D2_, D3_, D4_, D5_, D6_, D7_, D8_, SR A10_, SR A11_, SR A12_, SI 1, SI 0, D14_, D15_, D16_, D17_, SI 0, SI 0, SU] := by
  refine jLA at_303 rfl (jLA at_305 rfl (jcV 0 181 182 184 183 5 185 (nfS hw 184) (rm25_9 hw fm2_ fm3_ fm1_ fm4_) fm1_ pd7 at_307 rfl ?_))
  rintro _ _ ⟨rfl, rfl⟩
  refine jpO at_310 rfl (jLA at_311 rfl (jLA at_313 rfl (jcV 0 181 182 184 183 5 185 (nfS hw 184) (rm25_8 hw fm2_ fm1_ fm7_ fm5_ fm4_ fm6_) fm1_ pd7 at_315 rfl ?_)))
  rintro _ h2 ⟨rfl, K2, o0_2, o1_2, o2_2, o3_2, o4_2⟩
  exact jpO at_318 rfl (own_mono (tl16 hw o1_2 o0_2 o3_2))
set_option maxRecDepth 65536 in
set_option maxHeartbeats 40000000 in
theorem tl47 {D0_ D1_ D2_ D3_ D4_ D5_ D6_ : Slot} {G7_ : Int32} {D8_ : Slot} {A10_ A11_ A12_ : Addr} {D14_ D16_ : Slot} {A15_ : Addr} (hw : HW a0 Z) (fm1_ : Exa Z h0 A10_ cC8) (fm2_ : Fld Z h0 A10_ cC8 "exclusive" cC10 (VR A12_)) (fm3_ : ¬ (G7_ = (0 : Int32))) (fm4_ : A12_ ≠ A11_) (fm5_ : Fld Z h0 A10_ cC8 "others" cC11 (.null)) (fm6_ : Fld Z h0 A10_ cC8 "version" cC1 (.null)) (fm7_ : Fld Z h0 A10_ cC8 "key" cC9 (VR A15_)) (fm8_ : Z.heap.size ≤ A10_) :
    own_T l Z a0 A h0 21 102 274 #[D0_, D1_, D2_, D3_, D4_, D5_, D6_, SI G7_, D8_, SR A10_, SR A11_, SR A12_, SI 1, SI 0, D14_, SI 1, D16_, SI 0, SU, SU, SU] := by
  refine jLA at_274 rfl (jcV 0 61 62 64 63 5 65 (nfS hw 64) (rm8_3 hw fm2_) fm1_ pd5 at_276 rfl ?_)
  rintro _ _ ⟨rfl, rfl⟩
  exact jtI at_279 #[D0_, D1_, D2_, D3_, D4_, D5_, D6_, SI G7_, D8_, SR A10_, SR A11_, SR A12_, SI 1, SI 0, D14_, SI 1, D16_, SI 0, SI 0, SU, SU] rfl (jLI at_281 rfl (jineN at_283 (by decide) (jLI at_286 rfl (jieqN at_288 fm3_ (jLI at_291 rfl (jineY 300 at_293 (by decide) (jkI 0 at_300 rfl (jtI at_301 #[D0_, D1_, D2_, D3_, D4_, D5_, D6_, SI G7_, D8_, SR A10_, SR A11_, SR A12_, SI 1, SI 0, D14_, SI 1, D16_, SI 0, SI 0, SI 0, SU] rfl (own_mono (tl48 hw fm1_ fm2_ fm4_ fm5_ fm6_ fm7_ fm8_))))))))))
set_option maxRecDepth 65536 in
set_option maxHeartbeats 40000000 in
theorem tl44 {D0_ D1_ D2_ D3_ D4_ D5_ D6_ : Slot} {G7_ : Int32} {D8_ : Slot} {A10_ A11_ A12_ A13_ : Addr} {D16_ : Slot} {A15_ : Addr} {P16_ : Int32} {A17_ : Addr} {KK18_ : ClassId} {A19_ A20_ A21_ A22_ A23_ A24_ : Addr} {KK25_ : ClassId} {A26_ : Addr} (hw : HW a0 Z) (fm1_ : Exa Z h0 A10_ cC8) (fm2_ : Fld Z h0 A10_ cC8 "exclusive" cC10 (.null)) (fm3_ : Fld Z h0 A10_ cC8 "others" cC11 (VR A15_)) (fm4_ : Exa Z h0 A15_ cC21) (fm5_ : Fld Z h0 A15_ cC22 "modCount" "I" (VI P16_)) (fm6_ : Fld Z h0 A15_ cC21 "size" "I" (VI 2)) (fm7_ : Fld Z h0 A15_ cC21 "elementData" cC1 (VR A17_)) (fm8_ : Arv Z h0 A17_ KK18_ (.object "java/lang/Object") 2 [VR A19_, VR A13_] (.null)) (fm9_ : Exa Z h0 A19_ cC18) (fm10_ : Fld Z h0 A19_ cC18 "granted" "Z" (VI 1)) (fm11_ : Fld Z h0 A19_ cC18 "transaction" cC10 (VR A11_)) (fm12_ : A11_ ≠ A12_) (fm13_ : Exa Z h0 A13_ cC18) (fm14_ : Fld Z h0 A13_ cC18 "granted" "Z" (VI 0)) (fm15_ : Exa Z h0 A17_ cC1) (fm16_ : own_Mir Z cC1 A20_) (fm17_ : Sta Z Z.heap cC34 "EMPTY" cC9 (VR A21_)) (fm18_ : A13_ ≠ A21_) (fm19_ : Sta Z Z.heap cC21 "DEFAULTCAPACITY_EMPTY_ELEMENTDATA" cC1 (VR A22_)) (fm20_ : A19_ ≠ A13_) (fm21_ : Fld Z h0 A13_ cC18 "transaction" cC10 (VR A12_)) (fm22_ : Fld Z h0 A19_ cC18 "mode" cC3 (VR A23_)) (fm23_ : Fld Z h0 A13_ cC18 "mode" cC3 (VR A24_)) (fm24_ : Exa Z h0 A23_ cC2) (fm25_ : Sta Z Z.heap cC2 "SHARED" cC3 (VR A23_)) (fm26_ : A24_ ≠ A23_) (fm27_ : Arv Z h0 A22_ KK25_ (.object "java/lang/Object") 0 [] (.null)) (fm28_ : Exa Z h0 A11_ cC15) (fm29_ : A17_ ≠ A15_) (fm30_ : Ovr Z KK18_ cC24) (fm31_ : Z.heap.size ≤ A15_) (fm32_ : Z.heap.size ≤ A17_) (fm33_ : A10_ ≠ A17_) (fm34_ : A10_ ≠ A15_) (fm35_ : A13_ ≠ A17_) (fm36_ : A13_ ≠ A15_) (fm37_ : Sta Z Z.heap cC2 "EXCLUSIVE" cC3 (VR A24_)) (fm38_ : Z.heap.size ≤ A10_) (fm39_ : A13_ ≠ A10_) (fm40_ : Z.heap.size ≤ A13_) (fm41_ : Fld Z h0 A10_ cC8 "key" cC9 (VR A26_)) (fm42_ : Fld Z h0 A10_ cC8 "version" cC1 (.null)) (fm43_ : Fld Z h0 A13_ cC18 "row" cC19 (VR A10_)) (fm44_ : Fld Z h0 A13_ cC18 "first" "Z" (VI 1)) (fm45_ : A12_ ≠ A11_) :
    own_T l Z a0 A h0 15 77 234 #[D0_, D1_, D2_, D3_, D4_, D5_, D6_, SI G7_, D8_, SR A10_, SR A11_, SR A12_, SI 1, SI 0, SR A13_, SI 1, D16_, SI 0, SU, SU, SU] := by
  by_cases hm0 : G7_ = (0 : Int32)
  ·
    refine jLI at_234 rfl (jieqY 250 at_236 (by decide) (jLI at_250 rfl (jieqY 266 at_252 hm0 (jLA at_266 rfl (jLA at_268 rfl (jcV 0 181 182 184 183 5 185 (nfS hw 184) (rm25_6 hw fm2_ fm1_ fm3_ fm4_ fm5_ fm6_ fm7_ fm8_ fm9_ fm10_ fm11_ fm12_ fm13_ fm14_ fm15_ fm16_ fm17_ fm18_ fm19_ fm20_ fm21_ fm22_ fm23_ fm24_ fm25_ fm26_ fm27_ fm28_) fm1_ pd7 at_270 rfl ?_))))))
    rintro _ h1 ⟨rfl, K1⟩
    exact jpO at_273 rfl (own_mono (tl45 hw (fm1_.keep K1) (fm2_.keep K1 nin0) (fm3_.keep K1 nin0) hm0 (fm4_.keep K1) (fm5_.keep K1 nin0) (fm6_.keep K1 nin0) (fm7_.keep K1 nin0) (fm8_.keep K1 nin0) (fm9_.keep K1) (fm10_.keep K1 nin0) (fm11_.keep K1 nin0) (fm22_.keep K1 nin0) fm25_ (fm13_.keep K1) (fm14_.keep K1 nin0) fm29_ fm30_ (fm15_.keep K1) fm31_ fm32_ fm33_ fm34_ fm16_ fm17_ fm35_ fm36_ fm19_ (fm23_.keep K1 nin0) fm37_ (fm21_.keep K1 nin0) fm38_ fm39_ fm40_ (fm41_.keep K1 nin0) (fm42_.keep K1 nin0) (fm43_.keep K1 nin0) (fm44_.keep K1 nin0)))
  ·
    refine jLI at_234 rfl (jieqY 250 at_236 (by decide) (jLI at_250 rfl (jieqN at_252 hm0 (jLA at_255 rfl (jLA at_257 rfl (jcV 0 181 182 184 183 5 185 (nfS hw 184) (rm25_7 hw fm2_ fm1_ fm3_ fm4_ fm5_ fm6_ fm7_ fm8_ fm9_ fm10_ fm11_ fm22_ fm25_ fm13_ fm14_ fm29_ fm30_ fm15_ fm31_ fm32_ fm33_ fm34_ fm16_ fm17_ fm35_ fm36_ fm19_ fm23_ fm37_ fm21_ fm38_ fm39_ fm40_ fm41_ fm42_ fm43_ fm44_) fm1_ pd7 at_259 rfl ?_))))))
    rintro _ h1 ⟨rfl, K1, o0_1, o1_1, o2_1, o3_1, o4_1, o5_1, o6_1, o7_1, o8_1, o9_1, o10_1, o11_1, o12_1, o13_1, o14_1, o15_1, o16_1⟩
    exact jpO at_262 rfl (jgo 274 at_263 (own_mono (tl47 hw o6_1 o8_1 hm0 fm45_ o7_1 o10_1 o9_1 fm38_)))
set_option maxRecDepth 65536 in
set_option maxHeartbeats 40000000 in
theorem rm66_1 {a1 a2 a3 a6 : Addr} {k9 : ClassId} {a10 : Addr} {p14 : Int32} {a26 a30 : Addr} (hw : HW a0 Z) (f4 : Fld Z h0 a1 cC8 "others" cC11 (VR a3)) (f5 : Exa Z h0 a3 cC21) (f7 : Fld Z h0 a3 cC21 "elementData" cC1 (VR a6)) (f8 : Fld Z h0 a3 cC21 "size" "I" (VI 2)) (f11 : Arv Z h0 a6 k9 (.object "java/lang/Object") 2 [VR a10, VR a2] (.null)) (f12 : Exa Z h0 a2 cC18) (f13 : a2 ≠ a10) (f15 : Fld Z h0 a3 cC22 "modCount" "I" (VI p14)) (f16 : a6 ≠ a3) (f17 : Exa Z h0 a6 cC1) (f18 : Z.heap.size ≤ a3) (f19 : Z.heap.size ≤ a6) (f21 : Exa Z h0 a1 cC8) (f23 : a1 ≠ a6) (f24 : a1 ≠ a3) (f27 : own_Mir Z cC1 a26) (f28 : Exa Z h0 a10 cC18) (f31 : Sta Z Z.heap cC34 "EMPTY" cC9 (VR a30)) (f32 : Fld Z h0 a10 cC18 "granted" "Z" (VI 1)) (f33 : a10 ≠ a6) (f34 : a10 ≠ a3) :
    own_M l Z h0 yM66 c66 2 (some .boolean) 9 3 7 115 #[VR a1, VR a2] (fun v h => v = some (VI 0) ∧ Keep h0 h [a3, a6] ∧ Exa Z h a3 cC21 ∧ Fld Z h a3 cC22 "modCount" "I" (VI (p14 + (1 : Int32))) ∧ Fld Z h a3 cC21 "size" "I" (VI 1) ∧ Fld Z h a3 cC21 "elementData" cC1 (VR a6) ∧ Exa Z h a6 cC1 ∧ Arv Z h a6 k9 (.object "java/lang/Object") 2 [VR a10, .null] (.null)) := by
  refine own_ent hw (plainFor_of_name pn2) #[SR a1, SR a2] (fun _ => rfl) fun Q k => ?_
  refine jLa d66_0 rfl (jgF 68 f4 d66_1 (jLa d66_4 rfl (jcF 0 371 372 373 374 375 376 377 139 110 378 (rm49_2 hw f7 f8 f11 f12 f13 f5 f15 f18 f16 f19 f17) f5 pd14 d66_5 rfl ?_)))
  rintro _ h20 ⟨rfl, K20, o0_20, o1_20, o2_20, o3_20, o4_20, o5_20⟩
  have F22 := f21.keep K20
  refine jpO d66_10 rfl (jLa d66_11 rfl (jcP 0 237 4 239 238 5 240 (rm31_1 hw (f4.keep K20 (ninS f24 (ninS f23 nin0))) o0_20 o2_20 o3_20 o4_20 f27 o5_20 (f28.keep K20) f31 (f32.keep K20 (ninS f34 (ninS f33 nin0))) F22) F22 pd5 d66_12 rfl ?_))
  rintro _ h36 ⟨rfl, K36⟩
  exact jrZ d66_15 (k _ _ ⟨rfl, (((Keep.refl h0 [a3, a6]).trans K20 (allS (mI 0) (allS (mI 1) all0))).trans K36 all0), (o0_20.keep K36), (o1_20.keep K36 nin0), (o2_20.keep K36 nin0), (o3_20.keep K36 nin0), (o4_20.keep K36), (o5_20.keep K36 nin0)⟩)
set_option maxRecDepth 65536 in
set_option maxHeartbeats 40000000 in
theorem tl50 {D0_ D1_ D2_ D3_ D4_ D5_ D6_ : Slot} {G7_ : Int32} {D8_ : Slot} {A10_ A11_ A12_ : Addr} {D14_ D16_ : Slot} {A15_ : Addr} {P16_ : Int32} {A17_ : Addr} {KK18_ : ClassId} {A19_ A20_ A21_ A22_ : Addr} {KK23_ : ClassId} {A24_ : Addr} (hw : HW a0 Z) (fm1_ : Exa Z h0 A10_ cC8) (fm2_ : Fld Z h0 A10_ cC8 "exclusive" cC10 (.null)) (fm3_ : Fld Z h0 A10_ cC8 "others" cC11 (VR A15_)) (fm4_ : Exa Z h0 A15_ cC21) (fm5_ : Fld Z h0 A15_ cC22 "modCount" "I" (VI P16_)) (fm6_ : Fld Z h0 A15_ cC21 "size" "I" (VI 1)) (fm7_ : Fld Z h0 A15_ cC21 "elementData" cC1 (VR A17_)) (fm8_ : Arv Z h0 A17_ KK18_ (.object "java/lang/Object") 2 [VR A19_, .null] (.null)) (fm9_ : Exa Z h0 A19_ cC18) (fm10_ : Fld Z h0 A19_ cC18 "granted" "Z" (VI 1)) (fm11_ : Fld Z h0 A19_ cC18 "transaction" cC10 (VR A11_)) (fm12_ : Fld Z h0 A19_ cC18 "mode" cC3 (VR A20_)) (fm13_ : Sta Z Z.heap cC2 "SHARED" cC3 (VR A20_)) (fm14_ : A17_ ≠ A15_) (fm15_ : Exa Z h0 A17_ cC1) (fm16_ : A10_ ≠ A17_) (fm17_ : A10_ ≠ A15_) (fm18_ : Sta Z Z.heap cC34 "EMPTY_LIST" cC36 (VR A21_)) (fm19_ : Exa Z h0 A21_ cC0) (fm20_ : Fld Z h0 A21_ cC0 "elements" cC1 (VR A22_)) (fm21_ : A21_ ≠ A17_) (fm22_ : A21_ ≠ A15_) (fm23_ : Arv Z h0 A22_ KK23_ (.object "java/lang/Object") 0 [] (.null)) (fm24_ : A22_ ≠ A17_) (fm25_ : A22_ ≠ A15_) (fm26_ : Fld Z h0 A10_ cC8 "key" cC9 (VR A24_)) (fm27_ : Fld Z h0 A10_ cC8 "version" cC1 (.null)) (fm28_ : Z.heap.size ≤ A15_) (fm29_ : Z.heap.size ≤ A17_) (fm30_ : Z.heap.size ≤ A10_) :
    own_T l Z a0 A h0 21 102 274 #[D0_, D1_, D2_, D3_, D4_, D5_, D6_, SI G7_, D8_, SR A10_, SR A11_, SR A12_, SI 1, SI 0, D14_, SI 1, D16_, SI 1, SU, SU, SU] := by
  refine jLA at_274 rfl (jcV 0 61 62 64 63 5 65 (nfS hw 64) (rm8_2 hw fm2_ fm3_) fm1_ pd5 at_276 rfl ?_)
  rintro _ _ ⟨rfl, rfl⟩
  exact jtI at_279 #[D0_, D1_, D2_, D3_, D4_, D5_, D6_, SI G7_, D8_, SR A10_, SR A11_, SR A12_, SI 1, SI 0, D14_, SI 1, D16_, SI 1, SI 0, SU, SU] rfl (jLI at_281 rfl (jineY 300 at_283 (by decide) (jkI 0 at_300 rfl (jtI at_301 #[D0_, D1_, D2_, D3_, D4_, D5_, D6_, SI G7_, D8_, SR A10_, SR A11_, SR A12_, SI 1, SI 0, D14_, SI 1, D16_, SI 1, SI 0, SI 0, SU] rfl (own_mono (tl15 hw fm1_ fm2_ fm3_ fm4_ fm5_ fm6_ fm7_ fm8_ fm9_ fm10_ fm11_ fm12_ fm13_ fm28_ fm14_ fm29_ fm15_ fm16_ fm17_ fm18_ fm19_ fm20_ fm21_ fm22_ fm23_ fm24_ fm25_ fm30_ fm26_ fm27_))))))
set_option maxRecDepth 65536 in
set_option maxHeartbeats 40000000 in
theorem tl49 {D0_ D1_ D2_ D3_ D4_ D5_ D6_ : Slot} {G7_ : Int32} {D8_ : Slot} {A10_ A11_ A12_ A13_ : Addr} {D16_ : Slot} {A15_ A16_ : Addr} {KK17_ : ClassId} {A18_ : Addr} {P19_ : Int32} {A20_ A21_ A22_ A23_ A24_ : Addr} {KK25_ : ClassId} {A26_ : Addr} (hw : HW a0 Z) (fm1_ : Exa Z h0 A10_ cC8) (fm2_ : Fld Z h0 A10_ cC8 "others" cC11 (VR A15_)) (fm3_ : Exa Z h0 A15_ cC21) (fm4_ : Fld Z h0 A15_ cC21 "elementData" cC1 (VR A16_)) (fm5_ : Fld Z h0 A15_ cC21 "size" "I" (VI 2)) (fm6_ : Arv Z h0 A16_ KK17_ (.object "java/lang/Object") 2 [VR A18_, VR A13_] (.null)) (fm7_ : Exa Z h0 A13_ cC18) (fm8_ : A13_ ≠ A18_) (fm9_ : Fld Z h0 A15_ cC22 "modCount" "I" (VI P19_)) (fm10_ : A16_ ≠ A15_) (fm11_ : Exa Z h0 A16_ cC1) (fm12_ : Z.heap.size ≤ A15_) (fm13_ : Z.heap.size ≤ A16_) (fm14_ : A10_ ≠ A16_) (fm15_ : A10_ ≠ A15_) (fm16_ : own_Mir Z cC1 A20_) (fm17_ : Exa Z h0 A18_ cC18) (fm18_ : Sta Z Z.heap cC34 "EMPTY" cC9 (VR A21_)) (fm19_ : Fld Z h0 A18_ cC18 "granted" "Z" (VI 1)) (fm20_ : A18_ ≠ A16_) (fm21_ : A18_ ≠ A15_) (fm22_ : Fld Z h0 A10_ cC8 "exclusive" cC10 (.null)) (fm23_ : Fld Z h0 A18_ cC18 "transaction" cC10 (VR A11_)) (fm24_ : Fld Z h0 A18_ cC18 "mode" cC3 (VR A22_)) (fm25_ : Sta Z Z.heap cC2 "SHARED" cC3 (VR A22_)) (fm26_ : Sta Z Z.heap cC34 "EMPTY_LIST" cC36 (VR A23_)) (fm27_ : Exa Z h0 A23_ cC0) (fm28_ : Fld Z h0 A23_ cC0 "elements" cC1 (VR A24_)) (fm29_ : A23_ ≠ A16_) (fm30_ : A23_ ≠ A15_) (fm31_ : Arv Z h0 A24_ KK25_ (.object "java/lang/Object") 0 [] (.null)) (fm32_ : A24_ ≠ A16_) (fm33_ : A24_ ≠ A15_) (fm34_ : Fld Z h0 A10_ cC8 "key" cC9 (VR A26_)) (fm35_ : Fld Z h0 A10_ cC8 "version" cC1 (.null)) (fm36_ : Z.heap.size ≤ A10_) :
    own_T l Z a0 A h0 15 77 234 #[D0_, D1_, D2_, D3_, D4_, D5_, D6_, SI G7_, D8_, SR A10_, SR A11_, SR A12_, SI 1, SI 0, SR A13_, SI 1, D16_, SI 1, SU, SU, SU] := by
  refine jLI at_234 rfl (jieqN at_236 (by decide) (jLA at_239 rfl (jLA at_241 rfl (jcV 0 470 471 473 472 5 474 (nfS hw 473) (rm66_1 hw fm2_ fm3_ fm4_ fm5_ fm6_ fm7_ fm8_ fm9_ fm10_ fm11_ fm12_ fm13_ fm1_ fm14_ fm15_ fm16_ fm17_ fm18_ fm19_ fm20_ fm21_) fm1_ pd10 at_243 rfl ?_))))
  rintro _ h1 ⟨rfl, K1, o0_1, o1_1, o2_1, o3_1, o4_1, o5_1⟩
  exact jpO at_246 rfl (jgo 274 at_247 (own_mono (tl50 hw (fm1_.keep K1) (fm22_.keep K1 (ninS fm15_ (ninS fm14_ nin0))) (fm2_.keep K1 (ninS fm15_ (ninS fm14_ nin0))) o0_1 o1_1 o2_1 o3_1 o5_1 (fm17_.keep K1) (fm19_.keep K1 (ninS fm21_ (ninS fm20_ nin0))) (fm23_.keep K1 (ninS fm21_ (ninS fm20_ nin0))) (fm24_.keep K1 (ninS fm21_ (ninS fm20_ nin0))) fm25_ fm10_ o4_1 fm14_ fm15_ fm26_ (fm27_.keep K1) (fm28_.keep K1 (ninS fm30_ (ninS fm29_ nin0))) fm29_ fm30_ (fm31_.keep K1 (ninS fm33_ (ninS fm32_ nin0))) fm32_ fm33_ (fm34_.keep K1 (ninS fm15_ (ninS fm14_ nin0))) (fm35_.keep K1 (ninS fm15_ (ninS fm14_ nin0))) fm12_ fm13_ fm36_)))
set_option maxRecDepth 65536 in
set_option maxHeartbeats 40000000 in
theorem tl43 {D0_ D1_ D2_ D3_ D4_ D5_ D6_ : Slot} {G7_ G8_ : Int32} {A10_ A11_ A12_ A13_ A14_ : Addr} {P15_ : Int32} {A16_ : Addr} {KK17_ : ClassId} {A18_ A19_ A20_ A21_ A22_ A23_ : Addr} {KK24_ : ClassId} {A25_ A26_ A27_ : Addr} {KK28_ : ClassId} (hw : HW a0 Z) (fm1_ : Exa Z h0 A10_ cC8) (fm2_ : Fld Z h0 A10_ cC8 "exclusive" cC10 (.null)) (fm3_ : Fld Z h0 A10_ cC8 "others" cC11 (VR A14_)) (fm4_ : Exa Z h0 A14_ cC21) (fm5_ : Fld Z h0 A14_ cC22 "modCount" "I" (VI P15_)) (fm6_ : Fld Z h0 A14_ cC21 "size" "I" (VI 2)) (fm7_ : Fld Z h0 A14_ cC21 "elementData" cC1 (VR A16_)) (fm8_ : Arv Z h0 A16_ KK17_ (.object "java/lang/Object") 2 [VR A18_, VR A13_] (.null)) (fm9_ : Exa Z h0 A18_ cC18) (fm10_ : Fld Z h0 A18_ cC18 "granted" "Z" (VI 1)) (fm11_ : Fld Z h0 A18_ cC18 "transaction" cC10 (VR A11_)) (fm12_ : A11_ ≠ A12_) (fm13_ : Exa Z h0 A13_ cC18) (fm14_ : Fld Z h0 A13_ cC18 "granted" "Z" (VI 0)) (fm15_ : Exa Z h0 A16_ cC1) (fm16_ : own_Mir Z cC1 A19_) (fm17_ : Sta Z Z.heap cC34 "EMPTY" cC9 (VR A20_)) (fm18_ : A13_ ≠ A20_) (fm19_ : Sta Z Z.heap cC21 "DEFAULTCAPACITY_EMPTY_ELEMENTDATA" cC1 (VR A21_)) (fm20_ : A18_ ≠ A13_) (fm21_ : Fld Z h0 A13_ cC18 "transaction" cC10 (VR A12_)) (fm22_ : Fld Z h0 A18_ cC18 "mode" cC3 (VR A22_)) (fm23_ : Fld Z h0 A13_ cC18 "mode" cC3 (VR A23_)) (fm24_ : Exa Z h0 A22_ cC2) (fm25_ : Sta Z Z.heap cC2 "SHARED" cC3 (VR A22_)) (fm26_ : A23_ ≠ A22_) (fm27_ : Arv Z h0 A21_ KK24_ (.object "java/lang/Object") 0 [] (.null)) (fm28_ : Exa Z h0 A11_ cC15) (fm29_ : A16_ ≠ A14_) (fm30_ : Ovr Z KK17_ cC24) (fm31_ : Z.heap.size ≤ A14_) (fm32_ : Z.heap.size ≤ A16_) (fm33_ : A10_ ≠ A16_) (fm34_ : A10_ ≠ A14_) (fm35_ : A13_ ≠ A16_) (fm36_ : A13_ ≠ A14_) (fm37_ : Sta Z Z.heap cC2 "EXCLUSIVE" cC3 (VR A23_)) (fm38_ : Z.heap.size ≤ A10_) (fm39_ : A13_ ≠ A10_) (fm40_ : Z.heap.size ≤ A13_) (fm41_ : Fld Z h0 A10_ cC8 "key" cC9 (VR A25_)) (fm42_ : Fld Z h0 A10_ cC8 "version" cC1 (.null)) (fm43_ : Fld Z h0 A13_ cC18 "row" cC19 (VR A10_)) (fm44_ : Fld Z h0 A13_ cC18 "first" "Z" (VI 1)) (fm45_ : A13_ ≠ A18_) (fm46_ : A18_ ≠ A16_) (fm47_ : A18_ ≠ A14_) (fm48_ : Sta Z Z.heap cC34 "EMPTY_LIST" cC36 (VR A26_)) (fm49_ : Exa Z h0 A26_ cC0) (fm50_ : Fld Z h0 A26_ cC0 "elements" cC1 (VR A27_)) (fm51_ : A26_ ≠ A16_) (fm52_ : A26_ ≠ A14_) (fm53_ : Arv Z h0 A27_ KK28_ (.object "java/lang/Object") 0 [] (.null)) (fm54_ : A27_ ≠ A16_) (fm55_ : A27_ ≠ A14_) :
    own_T l Z a0 A h0 15 77 217 #[D0_, D1_, D2_, D3_, D4_, D5_, D6_, SI G7_, SI G8_, SR A10_, SR A11_, SR A12_, SI 1, SI 0, SR A13_, SI 1, SI 1, SU, SU, SU, SU] := by
  by_cases hm0 : G8_ = (0 : Int32)
  ·
    exact jLI at_217 rfl (jieqN at_219 (by decide) (jLI at_222 rfl (jieqY 231 at_224 hm0 (jkI 0 at_231 rfl (jtI at_232 #[D0_, D1_, D2_, D3_, D4_, D5_, D6_, SI G7_, SI G8_, SR A10_, SR A11_, SR A12_, SI 1, SI 0, SR A13_, SI 1, SI 1, SI 0, SU, SU, SU] rfl (own_mono (tl44 hw fm1_ fm2_ fm3_ fm4_ fm5_ fm6_ fm7_ fm8_ fm9_ fm10_ fm11_ fm12_ fm13_ fm14_ fm15_ fm16_ fm17_ fm18_ fm19_ fm20_ fm21_ fm22_ fm23_ fm24_ fm25_ fm26_ fm27_ fm28_ fm29_ fm30_ fm31_ fm32_ fm33_ fm34_ fm35_ fm36_ fm37_ fm38_ fm39_ fm40_ fm41_ fm42_ fm43_ fm44_ fm12_.symm)))))))
  ·
    exact jLI at_217 rfl (jieqN at_219 (by decide) (jLI at_222 rfl (jieqN at_224 hm0 (jkI 1 at_227 rfl (jgo 232 at_228 (jtI at_232 #[D0_, D1_, D2_, D3_, D4_, D5_, D6_, SI G7_, SI G8_, SR A10_, SR A11_, SR A12_, SI 1, SI 0, SR A13_, SI 1, SI 1, SI 1, SU, SU, SU] rfl (own_mono (tl49 hw fm1_ fm3_ fm4_ fm7_ fm6_ fm8_ fm13_ fm45_ fm5_ fm29_ fm15_ fm31_ fm32_ fm33_ fm34_ fm16_ fm9_ fm17_ fm10_ fm46_ fm47_ fm2_ fm11_ fm22_ fm25_ fm48_ fm49_ fm50_ fm51_ fm52_ fm53_ fm54_ fm55_ fm41_ fm42_ fm38_))))))))
set_option maxRecDepth 65536 in
set_option maxHeartbeats 40000000 in
theorem tl42 {D0_ D1_ D2_ : Slot} {A4_ : Addr} {D4_ D5_ : Slot} {A7_ : Addr} {G7_ G8_ : Int32} {A10_ A11_ A12_ A13_ A14_ : Addr} {P15_ : Int32} {A16_ : Addr} {KK17_ : ClassId} {A18_ A19_ A20_ A21_ : Addr} {KK22_ : ClassId} {A23_ A24_ A25_ : Addr} {KK26_ : ClassId} (hw : HW a0 Z) (fm1_ : Sta Z Z.heap cC2 "SHARED" cC3 (VR A4_)) (fm2_ : A7_ ≠ A4_) (fm3_ : Exa Z h0 A10_ cC8) (fm4_ : Fld Z h0 A10_ cC8 "exclusive" cC10 (.null)) (fm5_ : Fld Z h0 A10_ cC8 "others" cC11 (VR A14_)) (fm6_ : Exa Z h0 A14_ cC21) (fm7_ : Fld Z h0 A14_ cC22 "modCount" "I" (VI P15_)) (fm8_ : Fld Z h0 A14_ cC21 "size" "I" (VI 2)) (fm9_ : Fld Z h0 A14_ cC21 "elementData" cC1 (VR A16_)) (fm10_ : Arv Z h0 A16_ KK17_ (.object "java/lang/Object") 2 [VR A18_, VR A13_] (.null)) (fm11_ : Exa Z h0 A18_ cC18) (fm12_ : Fld Z h0 A18_ cC18 "granted" "Z" (VI 1)) (fm13_ : Fld Z h0 A18_ cC18 "transaction" cC10 (VR A11_)) (fm14_ : A11_ ≠ A12_) (fm15_ : Exa Z h0 A13_ cC18) (fm16_ : Fld Z h0 A13_ cC18 "granted" "Z" (VI 0)) (fm17_ : Exa Z h0 A16_ cC1) (fm18_ : own_Mir Z cC1 A19_) (fm19_ : Sta Z Z.heap cC34 "EMPTY" cC9 (VR A20_)) (fm20_ : A13_ ≠ A20_) (fm21_ : Sta Z Z.heap cC21 "DEFAULTCAPACITY_EMPTY_ELEMENTDATA" cC1 (VR A21_)) (fm22_ : A18_ ≠ A13_) (fm23_ : Fld Z h0 A13_ cC18 "transaction" cC10 (VR A12_)) (fm24_ : Fld Z h0 A18_ cC18 "mode" cC3 (VR A4_)) (fm25_ : Fld Z h0 A13_ cC18 "mode" cC3 (VR A7_)) (fm26_ : Exa Z h0 A4_ cC2) (fm27_ : Arv Z h0 A21_ KK22_ (.object "java/lang/Object") 0 [] (.null)) (fm28_ : Exa Z h0 A11_ cC15) (fm29_ : A16_ ≠ A14_) (fm30_ : Ovr Z KK17_ cC24) (fm31_ : Z.heap.size ≤ A14_) (fm32_ : Z.heap.size ≤ A16_) (fm33_ : A10_ ≠ A16_) (fm34_ : A10_ ≠ A14_) (fm35_ : A13_ ≠ A16_) (fm36_ : A13_ ≠ A14_) (fm37_ : Sta Z Z.heap cC2 "EXCLUSIVE" cC3 (VR A7_)) (fm38_ : Z.heap.size ≤ A10_) (fm39_ : A13_ ≠ A10_) (fm40_ : Z.heap.size ≤ A13_) (fm41_ : Fld Z h0 A10_ cC8 "key" cC9 (VR A23_)) (fm42_ : Fld Z h0 A10_ cC8 "version" cC1 (.null)) (fm43_ : Fld Z h0 A13_ cC18 "row" cC19 (VR A10_)) (fm44_ : Fld Z h0 A13_ cC18 "first" "Z" (VI 1)) (fm45_ : A18_ ≠ A16_) (fm46_ : A18_ ≠ A14_) (fm47_ : Sta Z Z.heap cC34 "EMPTY_LIST" cC36 (VR A24_)) (fm48_ : Exa Z h0 A24_ cC0) (fm49_ : Fld Z h0 A24_ cC0 "elements" cC1 (VR A25_)) (fm50_ : A24_ ≠ A16_) (fm51_ : A24_ ≠ A14_) (fm52_ : Arv Z h0 A25_ KK26_ (.object "java/lang/Object") 0 [] (.null)) (fm53_ : A25_ ≠ A16_) (fm54_ : A25_ ≠ A14_) :
    own_T l Z a0 A h0 15 77 190 #[D0_, D1_, D2_, SR A4_, D4_, D5_, SR A7_, SI G7_, SI G8_, SR A10_, SR A11_, SR A12_, SI 1, SI 0, SR A13_, SI 1, SU, SU, SU, SU, SU] := by
  exact jLI at_190 rfl (jieqN at_192 (by decide) (jLa at_195 rfl (jgS 0 fm1_ at_196 (jac 202 at_199 (decide_eq_true rfl) (jLA at_202 rfl (jgS 0 fm1_ at_204 (jac 210 at_207 (own_dn fm2_) (jkI 1 at_210 rfl (jgo 215 at_211 (jtI at_215 #[D0_, D1_, D2_, SR A4_, D4_, D5_, SR A7_, SI G7_, SI G8_, SR A10_, SR A11_, SR A12_, SI 1, SI 0, SR A13_, SI 1, SI 1, SU, SU, SU, SU] rfl (own_mono (tl43 hw fm3_ fm4_ fm5_ fm6_ fm7_ fm8_ fm9_ fm10_ fm11_ fm12_ fm13_ fm14_ fm15_ fm16_ fm17_ fm18_ fm19_ fm20_ fm21_ fm22_ fm23_ fm24_ fm25_ fm26_ fm1_ fm2_ fm27_ fm28_ fm29_ fm30_ fm31_ fm32_ fm33_ fm34_ fm35_ fm36_ fm37_ fm38_ fm39_ fm40_ fm41_ fm42_ fm43_ fm44_ fm22_.symm fm45_ fm46_ fm47_ fm48_ fm49_ fm50_ fm51_ fm52_ fm53_ fm54_))))))))))))
set_option maxRecDepth 65536 in
set_option maxHeartbeats 40000000 in
theorem tl41 {D0_ D1_ D2_ : Slot} {A4_ : Addr} {G4_ G5_ : Int32} {A7_ : Addr} {G7_ G8_ : Int32} {A10_ A11_ A12_ A13_ A14_ : Addr} {P15_ : Int32} {A16_ : Addr} {KK17_ : ClassId} {A18_ A19_ A20_ A21_ : Addr} {KK22_ : ClassId} {A23_ A24_ A25_ : Addr} {KK26_ : ClassId} (hw : HW a0 Z) (fm1_ : ¬ (G4_ = (0 : Int32))) (fm2_ : G5_ = (0 : Int32)) (fm3_ : Sta Z Z.heap cC2 "SHARED" cC3 (VR A4_)) (fm4_ : A7_ ≠ A4_) (fm5_ : Exa Z h0 A10_ cC8) (fm6_ : Fld Z h0 A10_ cC8 "exclusive" cC10 (.null)) (fm7_ : Fld Z h0 A10_ cC8 "others" cC11 (VR A14_)) (fm8_ : Exa Z h0 A14_ cC21) (fm9_ : Fld Z h0 A14_ cC22 "modCount" "I" (VI P15_)) (fm10_ : Fld Z h0 A14_ cC21 "size" "I" (VI 2)) (fm11_ : Fld Z h0 A14_ cC21 "elementData" cC1 (VR A16_)) (fm12_ : Arv Z h0 A16_ KK17_ (.object "java/lang/Object") 2 [VR A18_, VR A13_] (.null)) (fm13_ : Exa Z h0 A18_ cC18) (fm14_ : Fld Z h0 A18_ cC18 "granted" "Z" (VI 1)) (fm15_ : Fld Z h0 A18_ cC18 "transaction" cC10 (VR A11_)) (fm16_ : A11_ ≠ A12_) (fm17_ : Exa Z h0 A13_ cC18) (fm18_ : Fld Z h0 A13_ cC18 "granted" "Z" (VI 0)) (fm19_ : Exa Z h0 A16_ cC1) (fm20_ : own_Mir Z cC1 A19_) (fm21_ : Sta Z Z.heap cC34 "EMPTY" cC9 (VR A20_)) (fm22_ : A13_ ≠ A20_) (fm23_ : Sta Z Z.heap cC21 "DEFAULTCAPACITY_EMPTY_ELEMENTDATA" cC1 (VR A21_)) (fm24_ : A18_ ≠ A13_) (fm25_ : Fld Z h0 A13_ cC18 "transaction" cC10 (VR A12_)) (fm26_ : Fld Z h0 A18_ cC18 "mode" cC3 (VR A4_)) (fm27_ : Fld Z h0 A13_ cC18 "mode" cC3 (VR A7_)) (fm28_ : Exa Z h0 A4_ cC2) (fm29_ : Arv Z h0 A21_ KK22_ (.object "java/lang/Object") 0 [] (.null)) (fm30_ : Exa Z h0 A11_ cC15) (fm31_ : A16_ ≠ A14_) (fm32_ : Ovr Z KK17_ cC24) (fm33_ : Z.heap.size ≤ A14_) (fm34_ : Z.heap.size ≤ A16_) (fm35_ : A10_ ≠ A16_) (fm36_ : A10_ ≠ A14_) (fm37_ : A13_ ≠ A16_) (fm38_ : A13_ ≠ A14_) (fm39_ : Sta Z Z.heap cC2 "EXCLUSIVE" cC3 (VR A7_)) (fm40_ : Z.heap.size ≤ A10_) (fm41_ : A13_ ≠ A10_) (fm42_ : Z.heap.size ≤ A13_) (fm43_ : Fld Z h0 A10_ cC8 "key" cC9 (VR A23_)) (fm44_ : Fld Z h0 A10_ cC8 "version" cC1 (.null)) (fm45_ : Fld Z h0 A13_ cC18 "row" cC19 (VR A10_)) (fm46_ : Fld Z h0 A13_ cC18 "first" "Z" (VI 1)) (fm47_ : A18_ ≠ A16_) (fm48_ : A18_ ≠ A14_) (fm49_ : Sta Z Z.heap cC34 "EMPTY_LIST" cC36 (VR A24_)) (fm50_ : Exa Z h0 A24_ cC0) (fm51_ : Fld Z h0 A24_ cC0 "elements" cC1 (VR A25_)) (fm52_ : A24_ ≠ A16_) (fm53_ : A24_ ≠ A14_) (fm54_ : Arv Z h0 A25_ KK26_ (.object "java/lang/Object") 0 [] (.null)) (fm55_ : A25_ ≠ A16_) (fm56_ : A25_ ≠ A14_) :
    own_T l Z a0 A h0 15 77 173 #[D0_, D1_, D2_, SR A4_, SI G4_, SI G5_, SR A7_, SI G7_, SI G8_, SR A10_, SR A11_, SR A12_, SI 1, SI 0, SR A13_, SU, SU, SU, SU, SU, SU] := by
  exact jLI at_173 rfl (jieqN at_175 fm1_ (jLI at_178 rfl (jineN at_180 fm2_ (jkI 1 at_183 rfl (jgo 188 at_184 (jtI at_188 #[D0_, D1_, D2_, SR A4_, SI G4_, SI G5_, SR A7_, SI G7_, SI G8_, SR A10_, SR A11_, SR A12_, SI 1, SI 0, SR A13_, SI 1, SU, SU, SU, SU, SU] rfl (own_mono (tl42 hw fm3_ fm4_ fm5_ fm6_ fm7_ fm8_ fm9_ fm10_ fm11_ fm12_ fm13_ fm14_ fm15_ fm16_ fm17_ fm18_ fm19_ fm20_ fm21_ fm22_ fm23_ fm24_ fm25_ fm26_ fm27_ fm28_ fm29_ fm30_ fm31_ fm32_ fm33_ fm34_ fm35_ fm36_ fm37_ fm38_ fm39_ fm40_ fm41_ fm42_ fm43_ fm44_ fm45_ fm46_ fm47_ fm48_ fm49_ fm50_ fm51_ fm52_ fm53_ fm54_ fm55_ fm56_))))))))
set_option maxRecDepth 65536 in
set_option maxHeartbeats 40000000 in
theorem rm14_6 {a1 a2 a7 a13 a22 : Addr} {k25 : ClassId} {a26 a34 : Addr} (hw : HW a0 Z) (f8 : Sta Z Z.heap cC21 "DEFAULTCAPACITY_EMPTY_ELEMENTDATA" cC1 (VR a7)) (f10 : Fld Z h0 a1 cC8 "exclusive" cC10 (.null)) (f14 : Fld Z h0 a1 cC8 "others" cC11 (VR a13)) (f16 : Exa Z h0 a13 cC21) (f18 : Fld Z h0 a13 cC21 "size" "I" (VI 1)) (f23 : Fld Z h0 a13 cC21 "elementData" cC1 (VR a22)) (f27 : Arv Z h0 a22 k25 (.object "java/lang/Object") 2 [VR a26, .null] (.null)) (f31 : Exa Z h0 a26 cC18) (f33 : a26 ≠ a2) (f35 : Fld Z h0 a26 cC18 "transaction" cC10 (VR a34)) (f38 : Fld Z h0 a2 cC18 "transaction" cC10 (VR a34)) :
    own_M l Z h0 yM15 c14 6 (some (.object cC23)) 4 1 3 49 #[VR a1, VR a2] (fun v h => ∃ (b3 : Addr), v = some (VR b3) ∧ Keep h0 h [] ∧ h0.size ≤ b3 ∧ Exa Z h b3 cC21 ∧ Fld Z h b3 cC22 "modCount" "I" (VI 0) ∧ Fld Z h b3 cC21 "elementData" cC1 (VR a7) ∧ Fld Z h b3 cC21 "size" "I" (VI 0)) := by
  refine own_ent hw (plainFor_of_name pn2) #[SR a1, SR a2, SU, SU, SU, SU] (fun _ => rfl) fun Q k => ?_
  refine jnew 108 109 110 d14_0 fun b3 h3 g3 u3 E3 A3 D3 => ?_
  refine jdU d14_3 rfl (jcI 1 111 112 110 113 (rm15_1 hw A3 (dI D3 (lA hw 128)) u3 (dN D3 (lA hw 131)) (dI D3 (lA hw 142)) f8) pd0 d14_4 rfl ?_)
  rintro _ h9 ⟨rfl, K9, o0_9, o1_9, o2_9, o3_9⟩
  have v11 := own_lo f10.lt g3
  have F15 := (f14.ext E3).keep K9 (ninS v11 nin0)
  have F17 := (f16.ext E3).keep K9
  have v19 := own_lo f16.lt g3
  have F20 := (f18.ext E3).keep K9 (ninS v19 nin0)
  refine jta d14_7 #[SR a1, SR a2, SR b3, SU, SU, SU] rfl (jLa d14_8 rfl (jgF 66 ((f10.ext E3).keep K9 (ninS v11 nin0)) d14_9 (jzY 26 d14_12 (jkI 1 d14_26 rfl (jti d14_27 #[SR a1, SR a2, SR b3, SI 1, SU, SU] rfl (jkI 0 d14_28 rfl (jtI d14_29 #[SR a1, SR a2, SR b3, SI 1, SI 0, SU] rfl (jLa d14_31 rfl (jgF 68 F15 d14_32 (jzN d14_35 (jLI d14_38 rfl (jLa d14_40 rfl (jgF 68 F15 d14_41 (jcF 1 420 421 422 423 424 425 426 139 110 427 (rm56_1 hw F20) F17 pd27 d14_44 rfl ?_))))))))))))))
  rintro _ _ ⟨rfl, rfl⟩
  refine jcgeN d14_49 (by decide) (jLa d14_52 rfl (jgF 68 F15 d14_53 (jLI d14_56 rfl (jcF 0 428 364 365 429 430 431 432 139 110 433 (rm57_1 hw F20 F17 ((f23.ext E3).keep K9 (ninS v19 nin0)) ((f27.ext E3).keep K9 (ninS (own_lo f27.lt g3) nin0))) F17 pd29 d14_58 rfl ?_))))
  rintro _ _ ⟨rfl, rfl⟩
  refine jcY 75 (Ins.self ((f31.ext E3).keep K9)) d14_63 (jtA d14_66 #[SR a1, SR a2, SR b3, SI 1, SI 0, SR a26] rfl (jLA d14_68 rfl (jLa d14_70 rfl (jac 79 d14_71 (own_dn f33) (jLA d14_79 rfl (jgR 236 ((f35.ext E3).keep K9 (ninS (own_lo f31.lt g3) nin0)) d14_81 (jLa d14_84 rfl (jgR 236 ((f38.ext E3).keep K9 (ninS (own_lo f38.lt g3) nin0)) d14_85 (jac 130 d14_88 (decide_eq_true rfl) (jiC d14_130 #[SR a1, SR a2, SR b3, SI 1, SI 1, SR a26] rfl rfl (jgo 31 d14_133 (jLa d14_31 rfl (jgF 68 F15 d14_32 (jzN d14_35 (jLI d14_38 rfl ?_)))))))))))))))
  refine jLa d14_40 rfl (jgF 68 F15 d14_41 (jcF 1 420 421 422 423 424 425 426 139 110 427 (rm56_1 hw F20) F17 pd27 d14_44 rfl ?_))
  rintro _ _ ⟨rfl, rfl⟩
  exact jcgeY 136 d14_49 (by decide) (jLa d14_136 rfl (jrA d14_137 (k _ _ ⟨b3, rfl, (((Keep.refl h0 []).ext E3).trans K9 (allS (Or.inr g3) all0)), g3, o0_9, o1_9, o2_9, o3_9⟩)))
set_option maxRecDepth 65536 in
set_option maxHeartbeats 40000000 in
theorem rm13_6 {a1 a2 a4 a7 a11 : Addr} {k13 : ClassId} {a14 a18 : Addr} (hw : HW a0 Z) (f3 : Exa Z h0 a1 cC8) (f5 : Sta Z Z.heap cC21 "DEFAULTCAPACITY_EMPTY_ELEMENTDATA" cC1 (VR a4)) (f6 : Fld Z h0 a1 cC8 "exclusive" cC10 (.null)) (f8 : Fld Z h0 a1 cC8 "others" cC11 (VR a7)) (f9 : Exa Z h0 a7 cC21) (f10 : Fld Z h0 a7 cC21 "size" "I" (VI 1)) (f12 : Fld Z h0 a7 cC21 "elementData" cC1 (VR a11)) (f15 : Arv Z h0 a11 k13 (.object "java/lang/Object") 2 [VR a14, .null] (.null)) (f16 : Exa Z h0 a14 cC18) (f17 : a14 ≠ a2) (f19 : Fld Z h0 a14 cC18 "transaction" cC10 (VR a18)) (f20 : Fld Z h0 a2 cC18 "transaction" cC10 (VR a18)) :
    own_M l Z h0 yM17 c13 2 (some .boolean) 5 1 3 66 #[VR a1, VR a2] (fun v h => v = some (VI 1) ∧ Keep h0 h []) := by
  refine own_ent hw (plainFor_of_name pn2) #[SR a1, SR a2] (fun _ => rfl) fun Q k => ?_
  refine jLa d13_0 rfl (jLa d13_1 rfl (jcV 0 103 104 106 105 5 107 (nfS hw 106) (rm14_6 hw f5 f6 f8 f9 f10 f12 f15 f16 f17 f19 f20) f3 pd9 d13_2 rfl ?_))
  rintro _ h21 ⟨b3_21, rfl, K21, lob3_21, o0_21, o1_21, o2_21, o3_21⟩
  refine jcF 0 132 133 134 135 136 137 138 139 110 140 (rm18_1 hw o3_21) o0_21 pd5 d13_5 rfl ?_
  rintro _ _ ⟨rfl, rfl⟩
  exact jrZ d13_10 (k _ _ ⟨rfl, ((Keep.refl h0 []).trans K21 all0)⟩)
set_option maxRecDepth 65536 in
set_option maxHeartbeats 40000000 in
theorem rm49_5 {a1 a2 a3 : Addr} {k6 : ClassId} {a7 : Addr} (hw : HW a0 Z) (f4 : Fld Z h0 a1 cC21 "elementData" cC1 (VR a3)) (f5 : Fld Z h0 a1 cC21 "size" "I" (VI 1)) (f8 : Arv Z h0 a3 k6 (.object "java/lang/Object") 2 [VR a7, .null] (.null)) (f9 : Exa Z h0 a2 cC18) (f10 : a2 ≠ a7) :
    own_M l Z h0 yM51 c49 5 (some .boolean) 1 0 0 13 #[VR a1, VR a2] (fun v h => v = some (VI 0) ∧ h0 = h) := by
  refine own_ent hw (plainFor_of_name pn15) #[SR a1, SR a2, SU, SU, SU] (fun _ => rfl) fun Q k => ?_
  refine jLa d49_0 rfl (jgF 130 f4 d49_1 (jta d49_4 #[SR a1, SR a2, SR a3, SU, SU] rfl (jLa d49_5 rfl (jgF 141 f5 d49_6 (jti d49_9 #[SR a1, SR a2, SR a3, SI 1, SU] rfl (jkI 0 d49_10 rfl (jtI d49_11 #[SR a1, SR a2, SR a3, SI 1, SI 0] rfl (jLa d49_13 rfl (jyY 39 d49_14 (jLI d49_39 rfl (jLi d49_41 rfl (jcgeN d49_42 (by decide) (jLa d49_45 rfl (jLa d49_46 rfl (jLI d49_47 rfl ?_)))))))))))))))
  exact jaa f8 (by decide) (VR a7) rfl d49_49 (jeF 0 379 380 382 381 383 f10 (nfT hw 253) f9 d49_50 (jieqY 59 d49_53 (by decide) (jiC d49_59 #[SR a1, SR a2, SR a3, SI 1, SI 1] rfl rfl (jgo 39 d49_62 (jLI d49_39 rfl (jLi d49_41 rfl (jcgeY 65 d49_42 (by decide) (jkI 0 d49_65 rfl (jrZ d49_66 (k _ _ ⟨rfl, rfl⟩))))))))))
set_option maxRecDepth 65536 in
set_option maxHeartbeats 40000000 in
theorem rm19_4 {a1 a2 a3 a6 a9 : Addr} {p12 : Int32} {a15 : Addr} {k17 : ClassId} {a18 a23 a64 : Addr} (hw : HW a0 Z) (f4 : Fld Z h0 a2 cC18 "mode" cC3 (VR a3)) (f5 : Sta Z Z.heap cC2 "EXCLUSIVE" cC3 (VR a3)) (f7 : Fld Z h0 a2 cC18 "transaction" cC10 (VR a6)) (f8 : Exa Z h0 a1 cC8) (f10 : Fld Z h0 a1 cC8 "others" cC11 (VR a9)) (f11 : Exa Z h0 a9 cC21) (f13 : Fld Z h0 a9 cC22 "modCount" "I" (VI p12)) (f14 : Fld Z h0 a9 cC21 "size" "I" (VI 1)) (f16 : Fld Z h0 a9 cC21 "elementData" cC1 (VR a15)) (f19 : Arv Z h0 a15 k17 (.object "java/lang/Object") 2 [VR a18, .null] (.null)) (f20 : Exa Z h0 a18 cC18) (f21 : Fld Z h0 a18 cC18 "granted" "Z" (VI 1)) (f22 : Fld Z h0 a18 cC18 "transaction" cC10 (VR a6)) (f24 : Fld Z h0 a18 cC18 "mode" cC3 (VR a23)) (f25 : Sta Z Z.heap cC2 "SHARED" cC3 (VR a23)) (f29 : Fld Z h0 a1 cC8 "exclusive" cC10 (.null)) (f31 : Z.heap.size ≤ a1) (f36 : a9 ≠ a1) (f39 : a15 ≠ a1) (f41 : Exa Z h0 a2 cC18) (f43 : a2 ≠ a18) (f47 : a15 ≠ a9) (f48 : Exa Z h0 a15 cC1) (f50 : Z.heap.size ≤ a9) (f51 : Z.heap.size ≤ a15) (f54 : Fld Z h0 a2 cC18 "granted" "Z" (VI 0)) (f55 : a2 ≠ a1) (f56 : a2 ≠ a15) (f57 : a2 ≠ a9) (f59 : Z.heap.size ≤ a2) (f65 : Fld Z h0 a1 cC8 "key" cC9 (VR a64)) (f67 : Fld Z h0 a1 cC8 "version" cC1 (.null)) (f78 : Fld Z h0 a2 cC18 "row" cC19 (VR a1)) (f80 : Fld Z h0 a2 cC18 "first" "Z" (VI 0)) :
    own_M l Z h0 yM22 c19 3 none 4 1 4 54 #[VR a1, VR a2] (fun v h => v = none ∧ Keep h0 h [a1, a9, a15, a2] ∧ Exa Z h a1 cC8 ∧ Fld Z h a1 cC8 "others" cC11 (VR a9) ∧ Fld Z h a1 cC8 "exclusive" cC10 (VR a6) ∧ Fld Z h a1 cC8 "key" cC9 (VR a64) ∧ Fld Z h a1 cC8 "version" cC1 (.null) ∧ Exa Z h a9 cC21 ∧ Fld Z h a9 cC22 "modCount" "I" (VI (p12 + (1 : Int32))) ∧ Fld Z h a9 cC21 "size" "I" (VI 0) ∧ Fld Z h a9 cC21 "elementData" cC1 (VR a15) ∧ Exa Z h a15 cC1 ∧ Arv Z h a15 k17 (.object "java/lang/Object") 2 [.null, .null] (.null) ∧ Fld Z h a2 cC18 "mode" cC3 (VR a3) ∧ Fld Z h a2 cC18 "transaction" cC10 (VR a6) ∧ Exa Z h a2 cC18 ∧ Fld Z h a2 cC18 "granted" "Z" (VI 1) ∧ Fld Z h a2 cC18 "row" cC19 (VR a1) ∧ Fld Z h a2 cC18 "first" "Z" (VI 0)) := by
  refine own_ent hw (plainFor_of_name pn2) #[SR a1, SR a2, SU] (fun _ => rfl) fun Q k => ?_
  refine jLa d19_0 rfl (jgR 147 f4 d19_1 (jgS 148 f5 d19_4 (jac 10 d19_7 (decide_eq_true rfl) (jLa d19_10 rfl (jLa d19_11 rfl (jgR 236 f7 d19_12 (jcP 0 82 4 84 83 5 85 (rm11_3 hw f10 f11 f13 f14 f16 f19 f20 f21 f22 f24 f25) f8 pd6 d19_15 rfl ?_)))))))
  rintro _ h26 ⟨rfl, K26⟩
  have F27 := f7.keep K26 nin0
  have F28 := f8.keep K26
  refine jta d19_18 #[SR a1, SR a2, SR a18] rfl (jLa d19_19 rfl (jLa d19_20 rfl (jgR 236 F27 d19_21 (jpFR 66 67 4 (f29.keep K26 nin0) F28 f31 d19_24 fun h32 W32 F32 => ?_))))
  have F34 := fS (f10.keep K26 nin0) W32 (lA hw 69) (lA hw 67)
  have F35 := (f11.keep K26).wr W32
  have F37 := fW (f16.keep K26 nin0) W32 f36
  have F38 := fW (f14.keep K26 nin0) W32 f36
  have F40 := (f19.keep K26 nin0).other W32 f39
  have F42 := (f41.keep K26).wr W32
  refine jLa d19_27 rfl (jgF 68 F34 d19_28 (jzN d19_31 (jLa d19_34 rfl (jgF 68 F34 d19_35 (jLa d19_38 rfl (jcF 0 371 372 373 374 375 376 377 139 110 378 (rm49_5 hw F37 F38 F40 F42 f43) F35 pd14 d19_39 rfl ?_))))))
  rintro _ _ ⟨rfl, rfl⟩
  refine jpO d19_44 rfl (jLa d19_45 rfl (jgF 68 F34 d19_46 (jLa d19_49 rfl (jcF 0 371 372 373 374 375 376 377 139 110 378 (rm49_1 hw F37 F38 F40 ((f20.keep K26).wr W32) F35 (fW (f13.keep K26 nin0) W32 f36) f50 f47 f51 ((f48.keep K26).wr W32)) F35 pd14 d19_50 rfl ?_))))
  rintro _ h52 ⟨rfl, K52, o0_52, o1_52, o2_52, o3_52, o4_52, o5_52⟩
  have F53 := F42.keep K52
  refine jpO d19_55 rfl (jgo 90 d19_56 (jLa d19_90 rfl (jkI 1 d19_91 rfl (jpRZ 175 176 76 ((fW (f54.keep K26 nin0) W32 f55).keep K52 (ninS f57 (ninS f56 nin0))) F53 f59 d19_92 fun h60 W60 F60 => ?_))))
  exact jrV d19_95 (k _ _ ⟨rfl, (((((Keep.refl h0 [a1, a9, a15, a2]).trans K26 all0).wr W32 (mI 0)).trans K52 (allS (mI 1) (allS (mI 2) all0))).wr W60 (mI 3)), (((F28.wr W32).keep K52).wr W60), (fW (F34.keep K52 (ninS f36.symm (ninS f39.symm nin0))) W60 f55.symm), (fW (F32.keep K52 (ninS f36.symm (ninS f39.symm nin0))) W60 f55.symm), (fW ((fS (f65.keep K26 nin0) W32 (lB hw 21) (lA hw 67)).keep K52 (ninS f36.symm (ninS f39.symm nin0))) W60 f55.symm), (fW ((fS (f67.keep K26 nin0) W32 (lA hw 419) (lA hw 67)).keep K52 (ninS f36.symm (ninS f39.symm nin0))) W60 f55.symm), (o0_52.wr W60), (fW o1_52 W60 f57.symm), (fW o2_52 W60 f57.symm), (fW o3_52 W60 f57.symm), (o4_52.wr W60), (o5_52.other W60 f56.symm), (fS ((fW (f4.keep K26 nin0) W32 f55).keep K52 (ninS f57 (ninS f56 nin0))) W60 (lB hw 95) (lA hw 176)), (fS ((fW F27 W32 f55).keep K52 (ninS f57 (ninS f56 nin0))) W60 (lB hw 93) (lA hw 176)), (F53.wr W60), F60, (fS ((fW (f78.keep K26 nin0) W32 f55).keep K52 (ninS f57 (ninS f56 nin0))) W60 (lB hw 91) (lA hw 176)), (fS ((fW (f80.keep K26 nin0) W32 f55).keep K52 (ninS f57 (ninS f56 nin0))) W60 (lB hw 97) (lA hw 176))⟩)
set_option maxRecDepth 65536 in
set_option maxHeartbeats 40000000 in
theorem rm9_5 {a1 a2 a3 a14 : Addr} {p19 : Int32} {a24 : Addr} {k27 : ClassId} {a28 a37 a53 a91 : Addr} (hw : HW a0 Z) (f10 : Exa Z h0 a1 cC8) (f12 : Fld Z h0 a1 cC8 "exclusive" cC10 (.null)) (f15 : Fld Z h0 a1 cC8 "others" cC11 (VR a14)) (f17 : Exa Z h0 a14 cC21) (f20 : Fld Z h0 a14 cC22 "modCount" "I" (VI p19)) (f22 : Fld Z h0 a14 cC21 "size" "I" (VI 1)) (f25 : Fld Z h0 a14 cC21 "elementData" cC1 (VR a24)) (f29 : Arv Z h0 a24 k27 (.object "java/lang/Object") 2 [VR a28, .null] (.null)) (f31 : Exa Z h0 a28 cC18) (f33 : Fld Z h0 a28 cC18 "granted" "Z" (VI 1)) (f35 : Fld Z h0 a28 cC18 "transaction" cC10 (VR a2)) (f38 : Fld Z h0 a28 cC18 "mode" cC3 (VR a37)) (f40 : Sta Z Z.heap cC2 "SHARED" cC3 (VR a37)) (f51 : a3 ≠ a37) (f54 : Sta Z Z.heap cC21 "DEFAULTCAPACITY_EMPTY_ELEMENTDATA" cC1 (VR a53)) (f68 : Sta Z Z.heap cC2 "EXCLUSIVE" cC3 (VR a3)) (f81 : Z.heap.size ≤ a1) (f82 : a14 ≠ a1) (f83 : a24 ≠ a1) (f85 : a24 ≠ a14) (f86 : Exa Z h0 a24 cC1) (f88 : Z.heap.size ≤ a14) (f89 : Z.heap.size ≤ a24) (f92 : Fld Z h0 a1 cC8 "key" cC9 (VR a91)) (f94 : Fld Z h0 a1 cC8 "version" cC1 (.null)) :
    own_M l Z h0 yM24 c9 4 (some (.object cC18)) 6 4 16 79 #[VR a1, VR a2, VR a3] (fun v h => ∃ (b4 : Addr), v = some (VR b4) ∧ Keep h0 h [a1, a14, a24] ∧ h0.size ≤ b4 ∧ Exa Z h a1 cC8 ∧ Fld Z h a1 cC8 "others" cC11 (.null) ∧ Fld Z h a1 cC8 "exclusive" cC10 (VR a2) ∧ Fld Z h a1 cC8 "key" cC9 (VR a91) ∧ Fld Z h a1 cC8 "version" cC1 (.null) ∧ Exa Z h a14 cC21 ∧ Fld Z h a14 cC22 "modCount" "I" (VI (p19 + (1 : Int32))) ∧ Fld Z h a14 cC21 "size" "I" (VI 0) ∧ Fld Z h a14 cC21 "elementData" cC1 (VR a24) ∧ Exa Z h a24 cC1 ∧ Arv Z h a24 k27 (.object "java/lang/Object") 2 [.null, .null] (.null) ∧ Exa Z h b4 cC18 ∧ Fld Z h b4 cC18 "mode" cC3 (VR a3) ∧ Fld Z h b4 cC18 "transaction" cC10 (VR a2) ∧ Fld Z h b4 cC18 "granted" "Z" (VI 1) ∧ Fld Z h b4 cC18 "row" cC19 (VR a1) ∧ Fld Z h b4 cC18 "first" "Z" (VI 0)) := by
  refine own_ent hw (plainFor_of_name pn2) #[SR a1, SR a2, SR a3, SU] (fun _ => rfl) fun Q k => ?_
  refine jnew 75 76 77 d9_0 fun b4 h4 g4 u4 E4 A4 D4 => ?_
  have F11 := f10.ext E4
  have F13 := f12.ext E4
  have F16 := f15.ext E4
  have F18 := f17.ext E4
  have F21 := f20.ext E4
  have F23 := f22.ext E4
  have F26 := f25.ext E4
  have F30 := f29.ext E4
  have F32 := f31.ext E4
  have F34 := f33.ext E4
  have F36 := f35.ext E4
  have F39 := f38.ext E4
  refine jdU d9_3 rfl (jLa d9_4 rfl (jLa d9_5 rfl (jLa d9_6 rfl (jLa d9_7 rfl (jLa d9_8 rfl (jcP 5 78 4 80 79 5 81 (rm10_3 hw F13 F11 F16 F18 F21 F23 F26 F30 F32 F34 F36 F39 f40) F11 pd7 d9_9 rfl ?_))))))
  rintro _ h41 ⟨rfl, K41⟩
  refine jineY 19 d9_12 (by decide) (jkI 0 d9_19 rfl (jcR 1 86 87 77 88 (rm12_2 hw (A4.keep K41) ((dN D4 (lB hw 91)).keep K41 nin0) u4 ((dN D4 (lB hw 93)).keep K41 nin0) ((dN D4 (lB hw 95)).keep K41 nin0) ((dZ D4 (lB hw 97)).keep K41 nin0) ((dZ D4 (lA hw 176)).keep K41 nin0)) pd8 d9_20 rfl ?_))
  rintro _ h48 ⟨rfl, K48, o0_48, o1_48, o2_48, o3_48, o4_48, o5_48⟩
  have v49 := own_lo f10.lt g4
  have F50 := (F13.keep K41 nin0).keep K48 (ninS v49 nin0)
  have F52 := (F11.keep K41).keep K48
  have F55 := (F16.keep K41 nin0).keep K48 (ninS v49 nin0)
  have F56 := (F18.keep K41).keep K48
  have v57 := own_lo f17.lt g4
  have F58 := (F23.keep K41 nin0).keep K48 (ninS v57 nin0)
  have F59 := (F26.keep K41 nin0).keep K48 (ninS v57 nin0)
  have v60 := own_lo f29.lt g4
  have F61 := (F30.keep K41 nin0).keep K48 (ninS v60 nin0)
  have F62 := (F32.keep K41).keep K48
  have v63 := own_lo f31.lt g4
  have F64 := (F36.keep K41 nin0).keep K48 (ninS v63 nin0)
  refine jta d9_23 #[SR a1, SR a2, SR a3, SR b4] rfl (jLa d9_24 rfl (jgF 66 F50 d9_25 (jLa d9_28 rfl (jac 32 d9_29 (decide_eq_false nofun) (jLa d9_32 rfl (jgS 98 f40 d9_33 (jac 55 d9_36 (own_dn f51) (jLa d9_55 rfl (jLa d9_56 rfl (jcP 0 99 4 101 100 5 102 (rm13_6 hw F52 f54 F50 F55 F56 F58 F59 F61 F62 v63 F64 o2_48) F52 pd10 d9_57 rfl ?_))))))))))
  rintro _ h65 ⟨rfl, K65⟩
  have F66 := F52.keep K65
  refine jieqN d9_60 (by decide) (jLa d9_63 rfl (jLa d9_64 rfl (jcP 0 143 4 145 144 5 146 (rm19_4 hw (o3_48.keep K65 nin0) f68 (o2_48.keep K65 nin0) F66 (F55.keep K65 nin0) (F56.keep K65) (((F21.keep K41 nin0).keep K48 (ninS v57 nin0)).keep K65 nin0) (F58.keep K65 nin0) (F59.keep K65 nin0) (F61.keep K65 nin0) (F62.keep K65) (((F34.keep K41 nin0).keep K48 (ninS v63 nin0)).keep K65 nin0) (F64.keep K65 nin0) (((F39.keep K41 nin0).keep K48 (ninS v63 nin0)).keep K65 nin0) f40 (F50.keep K65 nin0) f81 f82 f83 (o0_48.keep K65) v63.symm f85 ((((f86.ext E4).keep K41).keep K48).keep K65) f88 f89 (o5_48.keep K65 nin0) v49.symm v60.symm v57.symm u4 ((((f92.ext E4).keep K41 nin0).keep K48 (ninS v49 nin0)).keep K65 nin0) ((((f94.ext E4).keep K41 nin0).keep K48 (ninS v49 nin0)).keep K65 nin0) (o1_48.keep K65 nin0) (o4_48.keep K65 nin0)) F66 pd15 d9_65 rfl ?_)))
  rintro _ h98 ⟨rfl, K98, o0_98, o1_98, o2_98, o3_98, o4_98, o5_98, o6_98, o7_98, o8_98, o9_98, o10_98, o11_98, o12_98, o13_98, o14_98, o15_98, o16_98⟩
  refine jgo 82 d9_68 (jLa d9_82 rfl (jcP 0 177 4 179 178 5 180 (rm24_5 hw o1_98 o5_98 o7_98 o0_98 f81 o2_98 o3_98 o4_98) o0_98 pd0 d9_83 rfl ?_))
  rintro _ h99 ⟨rfl, K99, o0_99, o1_99, o2_99, o3_99, o4_99⟩
  exact jLa d9_86 rfl (jrA d9_87 (k _ _ ⟨b4, rfl, (((((((Keep.refl h0 [a1, a14, a24]).ext E4).trans K41 all0).trans K48 (allS (Or.inr g4) all0)).trans K65 all0).trans K98 (allS (mI 0) (allS (mI 1) (allS (mI 2) (allS (Or.inr g4) all0))))).trans K99 (allS (mI 0) all0)), g4, o1_99, o0_99, o2_99, o3_99, o4_99, (o5_98.keep K99), (o6_98.keep K99 (ninS f82 nin0)), (o7_98.keep K99 (ninS f82 nin0)), (o8_98.keep K99 (ninS f82 nin0)), (o9_98.keep K99), (o10_98.keep K99 (ninS f83 nin0)), (o13_98.keep K99), (o11_98.keep K99 (ninS v49.symm nin0)), (o12_98.keep K99 (ninS v49.symm nin0)), (o14_98.keep K99 (ninS v49.symm nin0)), (o15_98.keep K99 (ninS v49.symm nin0)), (o16_98.keep K99 (ninS v49.symm nin0))⟩))
set_option maxRecDepth 65536 in
set_option maxHeartbeats 40000000 in
theorem tl56 {D0_ D1_ D2_ D3_ D4_ D5_ D6_ D7_ D8_ : Slot} {A10_ A11_ A12_ : Addr} {D14_ D15_ D16_ D17_ : Slot} {A17_ : Addr} (hw : HW a0 Z) (fm1_ : Exa Z h0 A10_ cC8) (fm2_ : Fld Z h0 A10_ cC8 "exclusive" cC10 (VR A11_)) (fm3_ : Fld Z h0 A10_ cC8 "version" cC1 (.null)) (fm4_ : Fld Z h0 A10_ cC8 "others" cC11 (.null)) (fm5_ : Fld Z h0 A10_ cC8 "key" cC9 (VR A17_)) (fm6_ : Z.heap.size ≤ A10_) :
    own_T l Z a0 A h0 21 102 303 #[D0_, D1_, D2_, D3_, D4_, D5_, D6_, D7_, D8_, SR A10_, SR A11_, SR A12_, SI 1, SI 0, D14_, D15_, D16_, D17_, SI 0, SI 0, SU] := by
  refine jLA at_303 rfl (jLA at_305 rfl (jcV 0 181 182 184 183 5 185 (nfS hw 184) (rm25_8 hw fm2_ fm1_ fm6_ fm3_ fm4_ fm5_) fm1_ pd7 at_307 rfl ?_))
  rintro _ h1 ⟨rfl, K1, o0_1, o1_1, o2_1, o3_1, o4_1⟩
  refine jpO at_310 rfl (jLA at_311 rfl (jLA at_313 rfl (jcV 0 181 182 184 183 5 185 (nfS hw 184) (rm25_3 hw o0_1 o1_1 o3_1) o1_1 pd7 at_315 rfl ?_)))
  rintro _ _ ⟨rfl, rfl⟩
  exact jpO at_318 rfl (own_mono (tl16 hw o1_1 o0_1 o3_1))
set_option maxRecDepth 65536 in
set_option maxHeartbeats 40000000 in
theorem tl55 {D0_ D1_ D2_ D3_ D4_ D5_ D6_ : Slot} {G7_ : Int32} {D8_ : Slot} {A10_ A11_ A12_ : Addr} {D14_ D16_ : Slot} {A15_ : Addr} (hw : HW a0 Z) (fm1_ : Exa Z h0 A10_ cC8) (fm2_ : Fld Z h0 A10_ cC8 "exclusive" cC10 (VR A11_)) (fm3_ : G7_ = (0 : Int32)) (fm4_ : Fld Z h0 A10_ cC8 "version" cC1 (.null)) (fm5_ : Fld Z h0 A10_ cC8 "others" cC11 (.null)) (fm6_ : Fld Z h0 A10_ cC8 "key" cC9 (VR A15_)) (fm7_ : Z.heap.size ≤ A10_) :
    own_T l Z a0 A h0 21 102 274 #[D0_, D1_, D2_, D3_, D4_, D5_, D6_, SI G7_, D8_, SR A10_, SR A11_, SR A12_, SI 1, SI 0, D14_, SI 0, D16_, SI 0, SU, SU, SU] := by
  refine jLA at_274 rfl (jcV 0 61 62 64 63 5 65 (nfS hw 64) (rm8_3 hw fm2_) fm1_ pd5 at_276 rfl ?_)
  rintro _ _ ⟨rfl, rfl⟩
  exact jtI at_279 #[D0_, D1_, D2_, D3_, D4_, D5_, D6_, SI G7_, D8_, SR A10_, SR A11_, SR A12_, SI 1, SI 0, D14_, SI 0, D16_, SI 0, SI 0, SU, SU] rfl (jLI at_281 rfl (jineN at_283 (by decide) (jLI at_286 rfl (jieqY 300 at_288 fm3_ (jkI 0 at_300 rfl (jtI at_301 #[D0_, D1_, D2_, D3_, D4_, D5_, D6_, SI G7_, D8_, SR A10_, SR A11_, SR A12_, SI 1, SI 0, D14_, SI 0, D16_, SI 0, SI 0, SI 0, SU] rfl (own_mono (tl56 hw fm1_ fm2_ fm4_ fm5_ fm6_ fm7_))))))))
set_option maxRecDepth 65536 in
set_option maxHeartbeats 40000000 in
theorem tl54 {D0_ D1_ D2_ D3_ D4_ D5_ D6_ : Slot} {G7_ : Int32} {D8_ : Slot} {A10_ A11_ A12_ A13_ : Addr} {D16_ : Slot} {A15_ : Addr} (hw : HW a0 Z) (fm1_ : Exa Z h0 A10_ cC8) (fm2_ : Fld Z h0 A10_ cC8 "exclusive" cC10 (VR A11_)) (fm3_ : A11_ ≠ A12_) (fm4_ : Fld Z h0 A10_ cC8 "others" cC11 (.null)) (fm5_ : Fld Z h0 A10_ cC8 "version" cC1 (.null)) (fm6_ : Fld Z h0 A10_ cC8 "key" cC9 (VR A15_)) (fm7_ : Z.heap.size ≤ A10_) :
    own_T l Z a0 A h0 15 77 234 #[D0_, D1_, D2_, D3_, D4_, D5_, D6_, SI G7_, D8_, SR A10_, SR A11_, SR A12_, SI 1, SI 0, SR A13_, SI 0, D16_, SI 0, SU, SU, SU] := by
  by_cases hm0 : G7_ = (0 : Int32)
  ·
    refine jLI at_234 rfl (jieqY 250 at_236 (by decide) (jLI at_250 rfl (jieqY 266 at_252 hm0 (jLA at_266 rfl (jLA at_268 rfl (jcV 0 181 182 184 183 5 185 (nfS hw 184) (rm25_9 hw fm2_ fm3_ fm1_ fm4_) fm1_ pd7 at_270 rfl ?_))))))
    rintro _ _ ⟨rfl, rfl⟩
    exact jpO at_273 rfl (own_mono (tl55 hw fm1_ fm2_ hm0 fm5_ fm4_ fm6_ fm7_))
  ·
    refine jLI at_234 rfl (jieqY 250 at_236 (by decide) (jLI at_250 rfl (jieqN at_252 hm0 (jLA at_255 rfl (jLA at_257 rfl (jcV 0 181 182 184 183 5 185 (nfS hw 184) (rm25_8 hw fm2_ fm1_ fm7_ fm5_ fm4_ fm6_) fm1_ pd7 at_259 rfl ?_))))))
    rintro _ h1 ⟨rfl, K1, o0_1, o1_1, o2_1, o3_1, o4_1⟩
    exact jpO at_262 rfl (jgo 274 at_263 (own_mono (tl18 hw o1_1 o0_1 o3_1 hm0)))
set_option maxRecDepth 65536 in
set_option maxHeartbeats 40000000 in
theorem tl53 {D0_ D1_ D2_ D3_ D4_ D5_ D6_ : Slot} {G7_ G8_ : Int32} {A10_ A11_ A12_ A13_ A14_ : Addr} (hw : HW a0 Z) (fm1_ : Exa Z h0 A10_ cC8) (fm2_ : Fld Z h0 A10_ cC8 "exclusive" cC10 (VR A11_)) (fm3_ : A11_ ≠ A12_) (fm4_ : Fld Z h0 A10_ cC8 "others" cC11 (.null)) (fm5_ : Fld Z h0 A10_ cC8 "version" cC1 (.null)) (fm6_ : Fld Z h0 A10_ cC8 "key" cC9 (VR A14_)) (fm7_ : Z.heap.size ≤ A10_) :
    own_T l Z a0 A h0 15 77 217 #[D0_, D1_, D2_, D3_, D4_, D5_, D6_, SI G7_, SI G8_, SR A10_, SR A11_, SR A12_, SI 1, SI 0, SR A13_, SI 0, SI 0, SU, SU, SU, SU] := by
  exact jLI at_217 rfl (jieqY 231 at_219 (by decide) (jkI 0 at_231 rfl (jtI at_232 #[D0_, D1_, D2_, D3_, D4_, D5_, D6_, SI G7_, SI G8_, SR A10_, SR A11_, SR A12_, SI 1, SI 0, SR A13_, SI 0, SI 0, SI 0, SU, SU, SU] rfl (own_mono (tl54 hw fm1_ fm2_ fm3_ fm4_ fm5_ fm6_ fm7_)))))
set_option maxRecDepth 65536 in
set_option maxHeartbeats 40000000 in
theorem tl52 {D0_ D1_ D2_ : Slot} {A4_ : Addr} {D4_ D5_ : Slot} {A7_ : Addr} {G7_ G8_ : Int32} {A10_ A11_ A12_ A13_ A14_ : Addr} (hw : HW a0 Z) (fm1_ : Exa Z h0 A10_ cC8) (fm2_ : Fld Z h0 A10_ cC8 "exclusive" cC10 (VR A11_)) (fm3_ : A11_ ≠ A12_) (fm4_ : Fld Z h0 A10_ cC8 "others" cC11 (.null)) (fm5_ : Fld Z h0 A10_ cC8 "version" cC1 (.null)) (fm6_ : Fld Z h0 A10_ cC8 "key" cC9 (VR A14_)) (fm7_ : Z.heap.size ≤ A10_) :
    own_T l Z a0 A h0 15 77 190 #[D0_, D1_, D2_, SR A4_, D4_, D5_, SR A7_, SI G7_, SI G8_, SR A10_, SR A11_, SR A12_, SI 1, SI 0, SR A13_, SI 0, SU, SU, SU, SU, SU] := by
  exact jLI at_190 rfl (jieqY 214 at_192 (by decide) (jkI 0 at_214 rfl (jtI at_215 #[D0_, D1_, D2_, SR A4_, D4_, D5_, SR A7_, SI G7_, SI G8_, SR A10_, SR A11_, SR A12_, SI 1, SI 0, SR A13_, SI 0, SI 0, SU, SU, SU, SU] rfl (own_mono (tl53 hw fm1_ fm2_ fm3_ fm4_ fm5_ fm6_ fm7_)))))
set_option maxRecDepth 65536 in
set_option maxHeartbeats 40000000 in
theorem tl51 {D0_ D1_ D2_ : Slot} {A4_ : Addr} {G4_ G5_ : Int32} {A7_ : Addr} {G7_ G8_ : Int32} {A10_ A11_ A12_ A13_ A14_ : Addr} (hw : HW a0 Z) (fm1_ : ¬ (G4_ = (0 : Int32))) (fm2_ : ¬ (G5_ = (0 : Int32))) (fm3_ : Exa Z h0 A10_ cC8) (fm4_ : Fld Z h0 A10_ cC8 "exclusive" cC10 (VR A11_)) (fm5_ : A11_ ≠ A12_) (fm6_ : Fld Z h0 A10_ cC8 "others" cC11 (.null)) (fm7_ : Fld Z h0 A10_ cC8 "version" cC1 (.null)) (fm8_ : Fld Z h0 A10_ cC8 "key" cC9 (VR A14_)) (fm9_ : Z.heap.size ≤ A10_) :
    own_T l Z a0 A h0 15 77 173 #[D0_, D1_, D2_, SR A4_, SI G4_, SI G5_, SR A7_, SI G7_, SI G8_, SR A10_, SR A11_, SR A12_, SI 1, SI 0, SR A13_, SU, SU, SU, SU, SU, SU] := by
  exact jLI at_173 rfl (jieqN at_175 fm1_ (jLI at_178 rfl (jineY 187 at_180 fm2_ (jkI 0 at_187 rfl (jtI at_188 #[D0_, D1_, D2_, SR A4_, SI G4_, SI G5_, SR A7_, SI G7_, SI G8_, SR A10_, SR A11_, SR A12_, SI 1, SI 0, SR A13_, SI 0, SU, SU, SU, SU, SU] rfl (own_mono (tl52 hw fm3_ fm4_ fm5_ fm6_ fm7_ fm8_ fm9_)))))))
set_option maxRecDepth 65536 in
set_option maxHeartbeats 40000000 in
theorem tl38 {D0_ D1_ D2_ : Slot} {A4_ : Addr} {G4_ G5_ : Int32} {A7_ : Addr} {G7_ G8_ : Int32} {A10_ A11_ A12_ A13_ : Addr} {P14_ : Int32} {A15_ : Addr} {KK16_ : ClassId} {A17_ A18_ A19_ A20_ A21_ : Addr} {KK22_ : ClassId} {A23_ A24_ : Addr} {KK25_ : ClassId} (hw : HW a0 Z) (fm1_ : Exa Z h0 A10_ cC8) (fm2_ : Fld Z h0 A10_ cC8 "exclusive" cC10 (.null)) (fm3_ : Fld Z h0 A10_ cC8 "others" cC11 (VR A13_)) (fm4_ : Exa Z h0 A13_ cC21) (fm5_ : Fld Z h0 A13_ cC22 "modCount" "I" (VI P14_)) (fm6_ : Fld Z h0 A13_ cC21 "size" "I" (VI 1)) (fm7_ : Fld Z h0 A13_ cC21 "elementData" cC1 (VR A15_)) (fm8_ : Arv Z h0 A15_ KK16_ (.object "java/lang/Object") 2 [VR A17_, .null] (.null)) (fm9_ : Exa Z h0 A17_ cC18) (fm10_ : Fld Z h0 A17_ cC18 "granted" "Z" (VI 1)) (fm11_ : Fld Z h0 A17_ cC18 "transaction" cC10 (VR A11_)) (fm12_ : A11_ ≠ A12_) (fm13_ : Exa Z h0 A15_ cC1) (fm14_ : own_Mir Z cC1 A18_) (fm15_ : Sta Z Z.heap cC34 "EMPTY" cC9 (VR A19_)) (fm16_ : Fld Z h0 A17_ cC18 "mode" cC3 (VR A4_)) (fm17_ : Sta Z Z.heap cC2 "SHARED" cC3 (VR A4_)) (fm18_ : A15_ ≠ A13_) (fm19_ : A10_ ≠ A15_) (fm20_ : A10_ ≠ A13_) (fm21_ : Sta Z Z.heap cC34 "EMPTY_LIST" cC36 (VR A20_)) (fm22_ : Exa Z h0 A20_ cC0) (fm23_ : Fld Z h0 A20_ cC0 "elements" cC1 (VR A21_)) (fm24_ : A20_ ≠ A15_) (fm25_ : A20_ ≠ A13_) (fm26_ : Arv Z h0 A21_ KK22_ (.object "java/lang/Object") 0 [] (.null)) (fm27_ : A21_ ≠ A15_) (fm28_ : A21_ ≠ A13_) (fm29_ : Fld Z h0 A10_ cC8 "key" cC9 (VR A23_)) (fm30_ : Fld Z h0 A10_ cC8 "version" cC1 (.null)) (fm31_ : Z.heap.size ≤ A13_) (fm32_ : Z.heap.size ≤ A15_) (fm33_ : Z.heap.size ≤ A10_) (fm34_ : A7_ ≠ A4_) (fm35_ : Sta Z Z.heap cC21 "DEFAULTCAPACITY_EMPTY_ELEMENTDATA" cC1 (VR A24_)) (fm36_ : Exa Z h0 A4_ cC2) (fm37_ : Arv Z h0 A24_ KK25_ (.object "java/lang/Object") 0 [] (.null)) (fm38_ : Exa Z h0 A11_ cC15) (fm39_ : Ovr Z KK16_ cC24) (fm40_ : A17_ ≠ A15_) (fm41_ : A17_ ≠ A13_) (fm42_ : A19_ < h0.size) (fm43_ : A24_ ≠ A15_) (fm44_ : A24_ ≠ A13_) (fm45_ : Sta Z Z.heap cC2 "EXCLUSIVE" cC3 (VR A7_)) (fm46_ : A13_ ≠ A10_) (fm47_ : A15_ ≠ A10_) :
    own_T l Z a0 A h0 10 54 147 #[D0_, D1_, D2_, SR A4_, SI G4_, SI G5_, SR A7_, SI G7_, SI G8_, SR A10_, SR A11_, SR A12_, SI 1, SI 0, SN, SU, SU, SU, SU, SU, SU] := by
  refine own_z fun Z0 => ?_
  by_cases hm0 : G4_ = (0 : Int32)
  ·
    exact jLI at_147 rfl (jieqY 173 at_149 hm0 (own_mono (tl39 hw hm0 fm1_ fm2_ fm3_ fm4_ fm5_ fm6_ fm7_ fm8_ fm9_ fm10_ fm11_ fm12_ fm13_ fm14_ fm15_ fm16_ fm17_ fm18_ fm19_ fm20_ fm21_ fm22_ fm23_ fm24_ fm25_ fm26_ fm27_ fm28_ fm29_ fm30_ fm31_ fm32_ fm33_)))
  ·
    by_cases hm1 : G5_ = (0 : Int32)
    ·
      refine jLI at_147 rfl (jieqN at_149 hm0 (jLA at_152 rfl (jLI at_154 rfl (jieqY 164 at_156 hm1 (jLA at_164 rfl (jLA at_166 rfl (jcV 0 70 71 73 72 5 74 (nfS hw 73) (rm9_4 hw fm1_ fm2_ fm3_ fm4_ fm5_ fm6_ fm7_ fm8_ fm9_ fm10_ fm11_ fm12_ fm17_ fm34_ fm35_ fm16_ fm36_ fm37_ fm38_ fm18_ fm39_ fm13_ fm31_ fm32_ fm19_ fm20_) fm1_ pd16 at_168 rfl ?_)))))))
      rintro _ h1 ⟨b4_1, rfl, K1, lob4_1, o0_1, o1_1, o2_1, o3_1, o4_1, o5_1, o6_1, o7_1, o8_1, o9_1, o10_1, o11_1⟩
      exact jtA at_171 #[D0_, D1_, D2_, SR A4_, SI G4_, SI G5_, SR A7_, SI G7_, SI G8_, SR A10_, SR A11_, SR A12_, SI 1, SI 0, SR b4_1, SU, SU, SU, SU, SU, SU] rfl (own_mono (tl41 hw hm0 hm1 fm17_ fm34_ (fm1_.keep K1) (fm2_.keep K1 (ninS fm20_ (ninS fm19_ nin0))) (fm3_.keep K1 (ninS fm20_ (ninS fm19_ nin0))) o0_1 o2_1 o1_1 o3_1 o5_1 (fm9_.keep K1) (fm10_.keep K1 (ninS fm41_ (ninS fm40_ nin0))) (fm11_.keep K1 (ninS fm41_ (ninS fm40_ nin0))) fm12_ o6_1 o11_1 o4_1 fm14_ fm15_ (own_lo fm42_ lob4_1).symm fm35_ (own_lo fm9_.lt lob4_1) o8_1 (fm16_.keep K1 (ninS fm41_ (ninS fm40_ nin0))) o9_1 (fm36_.keep K1) (fm37_.keep K1 (ninS fm44_ (ninS fm43_ nin0))) (fm38_.keep K1) fm18_ fm39_ fm31_ fm32_ fm19_ fm20_ (own_lo fm8_.lt lob4_1).symm (own_lo fm4_.lt lob4_1).symm fm45_ fm33_ (own_lo fm1_.lt lob4_1).symm (Nat.le_trans Z0 lob4_1) (fm29_.keep K1 (ninS fm20_ (ninS fm19_ nin0))) (fm30_.keep K1 (ninS fm20_ (ninS fm19_ nin0))) o7_1 o10_1 fm40_ fm41_ fm21_ (fm22_.keep K1) (fm23_.keep K1 (ninS fm25_ (ninS fm24_ nin0))) fm24_ fm25_ (fm26_.keep K1 (ninS fm28_ (ninS fm27_ nin0))) fm27_ fm28_))
    ·
      refine jLI at_147 rfl (jieqN at_149 hm0 (jLA at_152 rfl (jLI at_154 rfl (jieqN at_156 hm1 (jLA at_159 rfl (jgo 166 at_161 (jLA at_166 rfl (jcV 0 70 71 73 72 5 74 (nfS hw 73) (rm9_5 hw fm1_ fm2_ fm3_ fm4_ fm5_ fm6_ fm7_ fm8_ fm9_ fm10_ fm11_ fm16_ fm17_ fm34_ fm35_ fm45_ fm33_ fm46_ fm47_ fm18_ fm13_ fm31_ fm32_ fm29_ fm30_) fm1_ pd16 at_168 rfl ?_))))))))
      rintro _ h1 ⟨b4_1, rfl, K1, lob4_1, o0_1, o1_1, o2_1, o3_1, o4_1, o5_1, o6_1, o7_1, o8_1, o9_1, o10_1, o11_1, o12_1, o13_1, o14_1, o15_1, o16_1⟩
      exact jtA at_171 #[D0_, D1_, D2_, SR A4_, SI G4_, SI G5_, SR A7_, SI G7_, SI G8_, SR A10_, SR A11_, SR A12_, SI 1, SI 0, SR b4_1, SU, SU, SU, SU, SU, SU] rfl (own_mono (tl51 hw hm0 hm1 o0_1 o2_1 fm12_ o1_1 o4_1 o3_1 fm33_))
set_option maxRecDepth 65536 in
set_option maxHeartbeats 40000000 in
theorem tl37 {D0_ D1_ D2_ : Slot} {A4_ : Addr} {G4_ G5_ : Int32} {A7_ : Addr} {G7_ G8_ : Int32} {A10_ A11_ A12_ A13_ A14_ A15_ A16_ A17_ A18_ : Addr} {KK19_ KK20_ : ClassId} (hw : HW a0 Z) (fm1_ : Exa Z h0 A10_ cC8) (fm2_ : Fld Z h0 A10_ cC8 "exclusive" cC10 (.null)) (fm3_ : Fld Z h0 A10_ cC8 "others" cC11 (.null)) (fm4_ : Sta Z Z.heap cC2 "SHARED" cC3 (VR A4_)) (fm5_ : Sta Z Z.heap cC21 "DEFAULTCAPACITY_EMPTY_ELEMENTDATA" cC1 (VR A13_)) (fm6_ : Sta Z Z.heap cC2 "EXCLUSIVE" cC3 (VR A7_)) (fm7_ : A4_ ≠ A7_) (fm8_ : Fld Z h0 A10_ cC8 "key" cC9 (VR A14_)) (fm9_ : Fld Z h0 A10_ cC8 "version" cC1 (.null)) (fm10_ : Z.heap.size ≤ A10_) (fm11_ : A11_ ≠ A12_) (fm12_ : own_Mir Z cC1 A15_) (fm13_ : Sta Z Z.heap cC34 "EMPTY" cC9 (VR A16_)) (fm14_ : Sta Z Z.heap cC34 "EMPTY_LIST" cC36 (VR A17_)) (fm15_ : Exa Z h0 A17_ cC0) (fm16_ : Fld Z h0 A17_ cC0 "elements" cC1 (VR A18_)) (fm17_ : A17_ ≠ A10_) (fm18_ : Arv Z h0 A18_ KK19_ (.object "java/lang/Object") 0 [] (.null)) (fm19_ : A18_ ≠ A10_) (fm20_ : Exa Z h0 A4_ cC2) (fm21_ : Arv Z h0 A13_ KK20_ (.object "java/lang/Object") 0 [] (.null)) (fm22_ : A13_ ≠ A10_) (fm23_ : Exa Z h0 A11_ cC15) (fm24_ : A16_ < h0.size) :
    own_T l Z a0 A h0 6 41 128 #[D0_, D1_, D2_, SR A4_, SI G4_, SI G5_, SR A7_, SI G7_, SI G8_, SR A10_, SR A11_, SR A12_, SI 1, SU, SU, SU, SU, SU, SU, SU, SU] := by
  refine own_z fun Z0 => ?_
  refine jLA at_128 rfl (jLA at_130 rfl (jLa at_132 rfl (jcV 0 70 71 73 72 5 74 (nfS hw 73) (rm9_1 hw fm1_ fm2_ fm3_ fm4_ fm5_ fm6_ fm7_ fm10_ fm8_ fm9_) fm1_ pd16 at_133 rfl ?_)))
  rintro _ h1 ⟨b4_1, b3_15_45_1, b9_7_15_45_1, k9_7_15_45_1, rfl, K1, lob4_1, lob3_15_45_1, lob9_7_15_45_1, neb4b3_15_45_1, neb4b9_7_15_45_1, neb3_15_45b9_7_15_45_1, ovk9_7_15_45_1, o0_1, o1_1, o2_1, o3_1, o4_1, o5_1, o6_1, o7_1, o8_1, o9_1, o10_1, o11_1, o12_1, o13_1, o14_1, o15_1, o16_1⟩
  refine jpO at_136 rfl (jLA at_137 rfl (jcV 0 61 62 64 63 5 65 (nfS hw 64) (rm8_2 hw o2_1 o1_1) o0_1 pd5 at_139 rfl ?_))
  rintro _ _ ⟨rfl, rfl⟩
  have v3 := own_lo fm1_.lt lob9_7_15_45_1
  have v4 := own_lo fm1_.lt lob3_15_45_1
  exact jtI at_142 #[D0_, D1_, D2_, SR A4_, SI G4_, SI G5_, SR A7_, SI G7_, SI G8_, SR A10_, SR A11_, SR A12_, SI 1, SI 0, SU, SU, SU, SU, SU, SU, SU] rfl (jkN at_144 (jntA at_145 #[D0_, D1_, D2_, SR A4_, SI G4_, SI G5_, SR A7_, SI G7_, SI G8_, SR A10_, SR A11_, SR A12_, SI 1, SI 0, SN, SU, SU, SU, SU, SU, SU] rfl (own_mono (tl38 hw o0_1 o2_1 o1_1 o11_1 o13_1 o12_1 o14_1 o16_1 o5_1 o7_1 o9_1 fm11_ o15_1 fm12_ fm13_ o6_1 fm4_ neb3_15_45b9_7_15_45_1.symm v3 v4 fm14_ (fm15_.keep K1) (fm16_.keep K1 (ninS fm17_ nin0)) (own_lo fm15_.lt lob9_7_15_45_1) (own_lo fm15_.lt lob3_15_45_1) (fm18_.keep K1 (ninS fm19_ nin0)) (own_lo fm18_.lt lob9_7_15_45_1) (own_lo fm18_.lt lob3_15_45_1) o3_1 o4_1 (Nat.le_trans Z0 lob3_15_45_1) (Nat.le_trans Z0 lob9_7_15_45_1) fm10_ fm7_.symm fm5_ (fm20_.keep K1) (fm21_.keep K1 (ninS fm22_ nin0)) (fm23_.keep K1) ovk9_7_15_45_1 neb4b9_7_15_45_1 neb4b3_15_45_1 (Nat.lt_of_lt_of_le fm24_ K1.1) (own_lo fm21_.lt lob9_7_15_45_1) (own_lo fm21_.lt lob3_15_45_1) fm6_ v4.symm v3.symm))))
set_option maxRecDepth 65536 in
set_option maxHeartbeats 40000000 in
theorem tl36 {D0_ D1_ D2_ : Slot} {A4_ : Addr} {G4_ G5_ : Int32} {A7_ : Addr} {G7_ G8_ : Int32} {A10_ A11_ A12_ A13_ A14_ A15_ A16_ A17_ A18_ : Addr} {KK19_ KK20_ : ClassId} (hw : HW a0 Z) (fm1_ : Exa Z h0 A10_ cC8) (fm2_ : Fld Z h0 A10_ cC8 "exclusive" cC10 (.null)) (fm3_ : Fld Z h0 A10_ cC8 "others" cC11 (.null)) (fm4_ : Sta Z Z.heap cC2 "SHARED" cC3 (VR A4_)) (fm5_ : Sta Z Z.heap cC21 "DEFAULTCAPACITY_EMPTY_ELEMENTDATA" cC1 (VR A13_)) (fm6_ : Sta Z Z.heap cC2 "EXCLUSIVE" cC3 (VR A7_)) (fm7_ : A4_ ≠ A7_) (fm8_ : Fld Z h0 A10_ cC8 "key" cC9 (VR A14_)) (fm9_ : Fld Z h0 A10_ cC8 "version" cC1 (.null)) (fm10_ : Z.heap.size ≤ A10_) (fm11_ : A11_ ≠ A12_) (fm12_ : own_Mir Z cC1 A15_) (fm13_ : Sta Z Z.heap cC34 "EMPTY" cC9 (VR A16_)) (fm14_ : Sta Z Z.heap cC34 "EMPTY_LIST" cC36 (VR A17_)) (fm15_ : Exa Z h0 A17_ cC0) (fm16_ : Fld Z h0 A17_ cC0 "elements" cC1 (VR A18_)) (fm17_ : A17_ ≠ A10_) (fm18_ : Arv Z h0 A18_ KK19_ (.object "java/lang/Object") 0 [] (.null)) (fm19_ : A18_ ≠ A10_) (fm20_ : Exa Z h0 A4_ cC2) (fm21_ : Arv Z h0 A13_ KK20_ (.object "java/lang/Object") 0 [] (.null)) (fm22_ : A13_ ≠ A10_) (fm23_ : Exa Z h0 A11_ cC15) (fm24_ : A16_ < h0.size) :
    own_T l Z a0 A h0 6 41 121 #[D0_, D1_, D2_, SR A4_, SI G4_, SI G5_, SR A7_, SI G7_, SI G8_, SR A10_, SR A11_, SR A12_, SU, SU, SU, SU, SU, SU, SU, SU, SU] := by
  refine jLA at_121 rfl (jcV 0 61 62 64 63 5 65 (nfS hw 64) (rm8_1 hw fm2_ fm3_) fm1_ pd5 at_123 rfl ?_)
  rintro _ _ ⟨rfl, rfl⟩
  exact jtI at_126 #[D0_, D1_, D2_, SR A4_, SI G4_, SI G5_, SR A7_, SI G7_, SI G8_, SR A10_, SR A11_, SR A12_, SI 1, SU, SU, SU, SU, SU, SU, SU, SU] rfl (own_mono (tl37 hw fm1_ fm2_ fm3_ fm4_ fm5_ fm6_ fm7_ fm8_ fm9_ fm10_ fm11_ fm12_ fm13_ fm14_ fm15_ fm16_ fm17_ fm18_ fm19_ fm20_ fm21_ fm22_ fm23_ fm24_))
set_option maxRecDepth 65536 in
set_option maxHeartbeats 40000000 in
theorem tl35 {D0_ : Slot} {PJ2_ : Int64} {A3_ : Addr} {G4_ G5_ : Int32} {A6_ : Addr} {G7_ G8_ : Int32} {A9_ A10_ A11_ A12_ A13_ A14_ : Addr} {KK15_ KK16_ : ClassId} (hw : HW a0 Z) (fm1_ : Sta Z Z.heap cC6 "cache" cC7 (VR A9_)) (fm2_ : own_BoxLong Z A9_) (fm3_ : Sta Z Z.heap cC2 "SHARED" cC3 (VR A3_)) (fm4_ : Sta Z Z.heap cC21 "DEFAULTCAPACITY_EMPTY_ELEMENTDATA" cC1 (VR A10_)) (fm5_ : Sta Z Z.heap cC2 "EXCLUSIVE" cC3 (VR A6_)) (fm6_ : A3_ ≠ A6_) (fm7_ : own_Mir Z cC1 A11_) (fm8_ : Sta Z Z.heap cC34 "EMPTY" cC9 (VR A12_)) (fm9_ : Sta Z Z.heap cC34 "EMPTY_LIST" cC36 (VR A13_)) (fm10_ : Exa Z h0 A13_ cC0) (fm11_ : Fld Z h0 A13_ cC0 "elements" cC1 (VR A14_)) (fm12_ : Arv Z h0 A14_ KK15_ (.object "java/lang/Object") 0 [] (.null)) (fm13_ : Exa Z h0 A3_ cC2) (fm14_ : Arv Z h0 A10_ KK16_ (.object "java/lang/Object") 0 [] (.null)) (fm15_ : A12_ < h0.size) :
    own_T l Z a0 A h0 0 0 88 #[D0_, SJ PJ2_, SS, SR A3_, SI G4_, SI G5_, SR A6_, SI G7_, SI G8_, SU, SU, SU, SU, SU, SU, SU, SU, SU, SU, SU, SU] := by
  refine jnew 3 4 5 at_88 fun b1 h1 g1 u1 E1 A1 D1 => ?_
  refine jdU at_91 rfl (jLj at_92 rfl (jcS 2 6 7 8 9 (rm1_m1 hw fm1_ fm2_) pd2 at_93 rfl ?_))
  rintro _ h6 ⟨r0_6, rfl, K6, o0_6⟩
  refine jcI 1 14 15 5 16 (rm2_1 hw (A1.keep K6) ((dN D1 (lB hw 21)).keep K6 nin0) u1 ((dN D1 (lA hw 67)).keep K6 nin0) ((dN D1 (lA hw 69)).keep K6 nin0) ((dN D1 (lA hw 419)).keep K6 nin0)) pd3 at_96 rfl ?_
  rintro _ h12 ⟨rfl, K12, o0_12, o1_12, o2_12, o3_12, o4_12⟩
  refine jtA at_99 #[D0_, SJ PJ2_, SS, SR A3_, SI G4_, SI G5_, SR A6_, SI G7_, SI G8_, SR b1, SU, SU, SU, SU, SU, SU, SU, SU, SU, SU, SU] rfl (jnew 22 23 24 at_101 fun b13 h13 g13 u13 E13 A13 D13 => ?_)
  refine jdU at_104 rfl (jkN at_105 (jcI 1 25 26 24 27 (rm4_1 hw A13 (dN D13 (lB hw 56)) u13 (dJ D13 (lA hw 58)) (dN D13 (lB hw 60))) pd4 at_106 rfl ?_))
  rintro _ h17 ⟨b2_17, rfl, K17, lob2_17, o0_17, o1_17, o2_17, o3_17, o4_17, o5_17, o6_17, o7_17⟩
  refine jtA at_109 #[D0_, SJ PJ2_, SS, SR A3_, SI G4_, SI G5_, SR A6_, SI G7_, SI G8_, SR b1, SR b13, SU, SU, SU, SU, SU, SU, SU, SU, SU, SU] rfl (jnew 22 23 24 at_111 fun b18 h18 g18 u18 E18 A18 D18 => ?_)
  refine jdU at_114 rfl (jkN at_115 (jcI 1 25 26 24 27 (rm4_1 hw A18 (dN D18 (lB hw 56)) u18 (dJ D18 (lA hw 58)) (dN D18 (lB hw 60))) pd4 at_116 rfl ?_))
  rintro _ h22 ⟨b2_22, rfl, K22, lob2_22, o0_22, o1_22, o2_22, o3_22, o4_22, o5_22, o6_22, o7_22⟩
  have z26 := Nat.le_trans K6.1 K12.1
  have v24 := own_lo A1.lt (Nat.le_trans z26 g13)
  have v27 := own_lo A1.lt (Nat.le_trans (Nat.le_trans (Nat.le_trans z26 E13.1) K17.1) g18)
  have v37 := own_lo fm10_.lt g1
  have z41 := Nat.le_trans (Nat.le_trans E1.1 K6.1) K12.1
  have z44 := Nat.le_trans (Nat.le_trans z41 E13.1) K17.1
  have v46 := own_lo fm12_.lt g1
  have v51 := own_lo fm14_.lt g1
  exact jtA at_119 #[D0_, SJ PJ2_, SS, SR A3_, SI G4_, SI G5_, SR A6_, SI G7_, SI G8_, SR b1, SR b13, SR b18, SU, SU, SU, SU, SU, SU, SU, SU, SU] rfl (own_mono (tl36 hw ((((o0_12.ext E13).keep K17).ext E18).keep K22) ((((o2_12.ext E13).keep K17 (ninS v24 nin0)).ext E18).keep K22 (ninS v27 nin0)) ((((o3_12.ext E13).keep K17 (ninS v24 nin0)).ext E18).keep K22 (ninS v27 nin0)) fm3_ fm4_ fm5_ fm6_ ((((o1_12.ext E13).keep K17 (ninS v24 nin0)).ext E18).keep K22 (ninS v27 nin0)) ((((o4_12.ext E13).keep K17 (ninS v24 nin0)).ext E18).keep K22 (ninS v27 nin0)) u1 (own_lo A13.lt (Nat.le_trans K17.1 g18)) fm7_ fm8_ fm9_ (((((((fm10_.ext E1).keep K6).keep K12).ext E13).keep K17).ext E18).keep K22) (((((((fm11_.ext E1).keep K6 nin0).keep K12 (ninS v37 nin0)).ext E13).keep K17 (ninS (own_lo fm10_.lt (Nat.le_trans z41 g13)) nin0)).ext E18).keep K22 (ninS (own_lo fm10_.lt (Nat.le_trans z44 g18)) nin0)) v37 (((((((fm12_.ext E1).keep K6 nin0).keep K12 (ninS v46 nin0)).ext E13).keep K17 (ninS (own_lo fm12_.lt (Nat.le_trans z41 g13)) nin0)).ext E18).keep K22 (ninS (own_lo fm12_.lt (Nat.le_trans z44 g18)) nin0)) v46 (((((((fm13_.ext E1).keep K6).keep K12).ext E13).keep K17).ext E18).keep K22) (((((((fm14_.ext E1).keep K6 nin0).keep K12 (ninS v51 nin0)).ext E13).keep K17 (ninS (own_lo fm14_.lt (Nat.le_trans z41 g13)) nin0)).ext E18).keep K22 (ninS (own_lo fm14_.lt (Nat.le_trans z44 g18)) nin0)) v51 ((o0_17.ext E18).keep K22) (Nat.lt_of_lt_of_le fm15_ (Nat.le_trans (Nat.le_trans z44 E18.1) K22.1))))
set_option maxRecDepth 65536 in
set_option maxHeartbeats 40000000 in
theorem tl34 {P1_ : Int32} {PJ2_ : Int64} {A3_ : Addr} {G4_ G5_ : Int32} {A6_ : Addr} {G7_ : Int32} {A8_ A9_ A10_ A11_ A12_ A13_ : Addr} {KK14_ KK15_ : ClassId} (hw : HW a0 Z) (fm1_ : Sta Z Z.heap cC6 "cache" cC7 (VR A8_)) (fm2_ : own_BoxLong Z A8_) (fm3_ : Sta Z Z.heap cC2 "SHARED" cC3 (VR A3_)) (fm4_ : Sta Z Z.heap cC21 "DEFAULTCAPACITY_EMPTY_ELEMENTDATA" cC1 (VR A9_)) (fm5_ : Sta Z Z.heap cC2 "EXCLUSIVE" cC3 (VR A6_)) (fm6_ : A3_ ≠ A6_) (fm7_ : own_Mir Z cC1 A10_) (fm8_ : Sta Z Z.heap cC34 "EMPTY" cC9 (VR A11_)) (fm9_ : Sta Z Z.heap cC34 "EMPTY_LIST" cC36 (VR A12_)) (fm10_ : Exa Z h0 A12_ cC0) (fm11_ : Fld Z h0 A12_ cC0 "elements" cC1 (VR A13_)) (fm12_ : Arv Z h0 A13_ KK14_ (.object "java/lang/Object") 0 [] (.null)) (fm13_ : Exa Z h0 A3_ cC2) (fm14_ : Arv Z h0 A9_ KK15_ (.object "java/lang/Object") 0 [] (.null)) (fm15_ : A11_ < h0.size) :
    own_T l Z a0 A h0 0 0 74 #[SI P1_, SJ PJ2_, SS, SR A3_, SI G4_, SI G5_, SR A6_, SI G7_, SU, SU, SU, SU, SU, SU, SU, SU, SU, SU, SU, SU, SU] := by
  by_cases hm0 : (P1_ &&& (32 : Int32)) = (0 : Int32)
  ·
    exact jLi at_74 rfl (jkB 32 at_75 rfl (jiand at_77 (jieqY 85 at_78 hm0 (jkI 0 at_85 rfl (jtI at_86 #[SI P1_, SJ PJ2_, SS, SR A3_, SI G4_, SI G5_, SR A6_, SI G7_, SI 0, SU, SU, SU, SU, SU, SU, SU, SU, SU, SU, SU, SU] rfl (own_mono (tl35 hw fm1_ fm2_ fm3_ fm4_ fm5_ fm6_ fm7_ fm8_ fm9_ fm10_ fm11_ fm12_ fm13_ fm14_ fm15_)))))))
  ·
    exact jLi at_74 rfl (jkB 32 at_75 rfl (jiand at_77 (jieqN at_78 hm0 (jkI 1 at_81 rfl (jgo 86 at_82 (jtI at_86 #[SI P1_, SJ PJ2_, SS, SR A3_, SI G4_, SI G5_, SR A6_, SI G7_, SI 1, SU, SU, SU, SU, SU, SU, SU, SU, SU, SU, SU, SU] rfl (own_mono (tl35 hw fm1_ fm2_ fm3_ fm4_ fm5_ fm6_ fm7_ fm8_ fm9_ fm10_ fm11_ fm12_ fm13_ fm14_ fm15_))))))))
set_option maxRecDepth 65536 in
set_option maxHeartbeats 40000000 in
theorem tl33 {P1_ : Int32} {PJ2_ : Int64} {A3_ : Addr} {G4_ G5_ : Int32} {A6_ A7_ A8_ A9_ A10_ A11_ A12_ : Addr} {KK13_ KK14_ : ClassId} (hw : HW a0 Z) (fm1_ : Sta Z Z.heap cC6 "cache" cC7 (VR A7_)) (fm2_ : own_BoxLong Z A7_) (fm3_ : Sta Z Z.heap cC2 "SHARED" cC3 (VR A3_)) (fm4_ : Sta Z Z.heap cC21 "DEFAULTCAPACITY_EMPTY_ELEMENTDATA" cC1 (VR A8_)) (fm5_ : Sta Z Z.heap cC2 "EXCLUSIVE" cC3 (VR A6_)) (fm6_ : A3_ ≠ A6_) (fm7_ : own_Mir Z cC1 A9_) (fm8_ : Sta Z Z.heap cC34 "EMPTY" cC9 (VR A10_)) (fm9_ : Sta Z Z.heap cC34 "EMPTY_LIST" cC36 (VR A11_)) (fm10_ : Exa Z h0 A11_ cC0) (fm11_ : Fld Z h0 A11_ cC0 "elements" cC1 (VR A12_)) (fm12_ : Arv Z h0 A12_ KK13_ (.object "java/lang/Object") 0 [] (.null)) (fm13_ : Exa Z h0 A3_ cC2) (fm14_ : Arv Z h0 A8_ KK14_ (.object "java/lang/Object") 0 [] (.null)) (fm15_ : A10_ < h0.size) :
    own_T l Z a0 A h0 0 0 60 #[SI P1_, SJ PJ2_, SS, SR A3_, SI G4_, SI G5_, SR A6_, SU, SU, SU, SU, SU, SU, SU, SU, SU, SU, SU, SU, SU, SU] := by
  by_cases hm0 : (P1_ &&& (16 : Int32)) = (0 : Int32)
  ·
    exact jLi at_60 rfl (jkB 16 at_61 rfl (jiand at_63 (jieqY 71 at_64 hm0 (jkI 0 at_71 rfl (jtI at_72 #[SI P1_, SJ PJ2_, SS, SR A3_, SI G4_, SI G5_, SR A6_, SI 0, SU, SU, SU, SU, SU, SU, SU, SU, SU, SU, SU, SU, SU] rfl (own_mono (tl34 hw fm1_ fm2_ fm3_ fm4_ fm5_ fm6_ fm7_ fm8_ fm9_ fm10_ fm11_ fm12_ fm13_ fm14_ fm15_)))))))
  ·
    exact jLi at_60 rfl (jkB 16 at_61 rfl (jiand at_63 (jieqN at_64 hm0 (jkI 1 at_67 rfl (jgo 72 at_68 (jtI at_72 #[SI P1_, SJ PJ2_, SS, SR A3_, SI G4_, SI G5_, SR A6_, SI 1, SU, SU, SU, SU, SU, SU, SU, SU, SU, SU, SU, SU, SU] rfl (own_mono (tl34 hw fm1_ fm2_ fm3_ fm4_ fm5_ fm6_ fm7_ fm8_ fm9_ fm10_ fm11_ fm12_ fm13_ fm14_ fm15_))))))))
set_option maxRecDepth 65536 in
set_option maxHeartbeats 40000000 in
theorem tl3 {P1_ : Int32} {PJ2_ : Int64} {A3_ : Addr} {G4_ G5_ : Int32} {A6_ A7_ A8_ A9_ A10_ A11_ A12_ : Addr} {KK13_ KK14_ : ClassId} (hw : HW a0 Z) (fm1_ : Sta Z Z.heap cC2 "SHARED" cC3 (VR A3_)) (fm2_ : Sta Z Z.heap cC6 "cache" cC7 (VR A6_)) (fm3_ : own_BoxLong Z A6_) (fm4_ : Sta Z Z.heap cC21 "DEFAULTCAPACITY_EMPTY_ELEMENTDATA" cC1 (VR A7_)) (fm5_ : Sta Z Z.heap cC2 "EXCLUSIVE" cC3 (VR A8_)) (fm6_ : A3_ ≠ A8_) (fm7_ : own_Mir Z cC1 A9_) (fm8_ : Sta Z Z.heap cC34 "EMPTY" cC9 (VR A10_)) (fm9_ : Sta Z Z.heap cC34 "EMPTY_LIST" cC36 (VR A11_)) (fm10_ : Exa Z h0 A11_ cC0) (fm11_ : Fld Z h0 A11_ cC0 "elements" cC1 (VR A12_)) (fm12_ : Arv Z h0 A12_ KK13_ (.object "java/lang/Object") 0 [] (.null)) (fm13_ : Exa Z h0 A3_ cC2) (fm14_ : Arv Z h0 A7_ KK14_ (.object "java/lang/Object") 0 [] (.null)) (fm15_ : A10_ < h0.size) :
    own_T l Z a0 A h0 0 0 42 #[SI P1_, SJ PJ2_, SS, SR A3_, SI G4_, SI G5_, SU, SU, SU, SU, SU, SU, SU, SU, SU, SU, SU, SU, SU, SU, SU] := by
  by_cases hm0 : (P1_ &&& (8 : Int32)) = (0 : Int32)
  ·
    exact jLi at_42 rfl (jkB 8 at_43 rfl (jiand at_45 (jieqY 55 at_46 hm0 (jgS 0 fm1_ at_55 (jtA at_58 #[SI P1_, SJ PJ2_, SS, SR A3_, SI G4_, SI G5_, SR A3_, SU, SU, SU, SU, SU, SU, SU, SU, SU, SU, SU, SU, SU, SU] rfl (own_mono (tl4 hw fm2_ fm3_ fm1_ fm4_ fm5_ fm6_ fm7_ fm8_ fm9_ fm10_ fm11_ fm12_ fm13_)))))))
  ·
    exact jLi at_42 rfl (jkB 8 at_43 rfl (jiand at_45 (jieqN at_46 hm0 (jgS 402 fm5_ at_49 (jgo 58 at_52 (jtA at_58 #[SI P1_, SJ PJ2_, SS, SR A3_, SI G4_, SI G5_, SR A8_, SU, SU, SU, SU, SU, SU, SU, SU, SU, SU, SU, SU, SU, SU] rfl (own_mono (tl33 hw fm2_ fm3_ fm1_ fm4_ fm5_ fm6_ fm7_ fm8_ fm9_ fm10_ fm11_ fm12_ fm13_ fm14_ fm15_))))))))
set_option maxRecDepth 65536 in
set_option maxHeartbeats 40000000 in
theorem tl2 {P1_ : Int32} {PJ2_ : Int64} {A3_ : Addr} {G4_ : Int32} {A5_ A6_ A7_ A8_ A9_ A10_ A11_ : Addr} {KK12_ KK13_ : ClassId} (hw : HW a0 Z) (fm1_ : Sta Z Z.heap cC2 "SHARED" cC3 (VR A3_)) (fm2_ : Sta Z Z.heap cC6 "cache" cC7 (VR A5_)) (fm3_ : own_BoxLong Z A5_) (fm4_ : Sta Z Z.heap cC21 "DEFAULTCAPACITY_EMPTY_ELEMENTDATA" cC1 (VR A6_)) (fm5_ : Sta Z Z.heap cC2 "EXCLUSIVE" cC3 (VR A7_)) (fm6_ : A3_ ≠ A7_) (fm7_ : own_Mir Z cC1 A8_) (fm8_ : Sta Z Z.heap cC34 "EMPTY" cC9 (VR A9_)) (fm9_ : Sta Z Z.heap cC34 "EMPTY_LIST" cC36 (VR A10_)) (fm10_ : Exa Z h0 A10_ cC0) (fm11_ : Fld Z h0 A10_ cC0 "elements" cC1 (VR A11_)) (fm12_ : Arv Z h0 A11_ KK12_ (.object "java/lang/Object") 0 [] (.null)) (fm13_ : Exa Z h0 A3_ cC2) (fm14_ : Arv Z h0 A6_ KK13_ (.object "java/lang/Object") 0 [] (.null)) (fm15_ : A9_ < h0.size) (fm16_ : Exa Z h0 A9_ cC24) :
    own_T l Z a0 A h0 0 0 29 #[SI P1_, SJ PJ2_, SS, SR A3_, SI G4_, SU, SU, SU, SU, SU, SU, SU, SU, SU, SU, SU, SU, SU, SU, SU, SU] := by
  by_cases hm0 : (P1_ &&& (4 : Int32)) = (0 : Int32)
  ·
    exact jLi at_29 rfl (jkI 4 at_30 rfl (jiand at_31 (jieqY 39 at_32 hm0 (jkI 0 at_39 rfl (jtI at_40 #[SI P1_, SJ PJ2_, SS, SR A3_, SI G4_, SI 0, SU, SU, SU, SU, SU, SU, SU, SU, SU, SU, SU, SU, SU, SU, SU] rfl (own_mono (tl3 hw fm1_ fm2_ fm3_ fm4_ fm5_ fm6_ fm7_ fm8_ fm9_ fm10_ fm11_ fm12_ fm13_ fm14_ fm15_)))))))
  ·
    exact jLi at_29 rfl (jkI 4 at_30 rfl (jiand at_31 (jieqN at_32 hm0 (jkI 1 at_35 rfl (jgo 40 at_36 (jtI at_40 #[SI P1_, SJ PJ2_, SS, SR A3_, SI G4_, SI 1, SU, SU, SU, SU, SU, SU, SU, SU, SU, SU, SU, SU, SU, SU, SU] rfl (own_mono (tl3 hw fm1_ fm2_ fm3_ fm4_ fm5_ fm6_ fm7_ fm8_ fm9_ fm10_ fm11_ fm12_ fm13_ fm14_ fm16_.lt))))))))
set_option maxRecDepth 65536 in
set_option maxHeartbeats 40000000 in
theorem tl1 {P1_ : Int32} {PJ2_ : Int64} {A3_ A4_ A5_ A6_ A7_ A8_ A9_ A10_ : Addr} {KK11_ KK12_ : ClassId} (hw : HW a0 Z) (fm1_ : Sta Z Z.heap cC2 "SHARED" cC3 (VR A3_)) (fm2_ : Sta Z Z.heap cC6 "cache" cC7 (VR A4_)) (fm3_ : own_BoxLong Z A4_) (fm4_ : Sta Z Z.heap cC21 "DEFAULTCAPACITY_EMPTY_ELEMENTDATA" cC1 (VR A5_)) (fm5_ : Sta Z Z.heap cC2 "EXCLUSIVE" cC3 (VR A6_)) (fm6_ : A3_ ≠ A6_) (fm7_ : own_Mir Z cC1 A7_) (fm8_ : Sta Z Z.heap cC34 "EMPTY" cC9 (VR A8_)) (fm9_ : Sta Z Z.heap cC34 "EMPTY_LIST" cC36 (VR A9_)) (fm10_ : Exa Z h0 A9_ cC0) (fm11_ : Fld Z h0 A9_ cC0 "elements" cC1 (VR A10_)) (fm12_ : Arv Z h0 A10_ KK11_ (.object "java/lang/Object") 0 [] (.null)) (fm13_ : Exa Z h0 A3_ cC2) (fm14_ : Arv Z h0 A5_ KK12_ (.object "java/lang/Object") 0 [] (.null)) (fm15_ : Exa Z h0 A8_ cC24) :
    own_T l Z a0 A h0 0 0 16 #[SI P1_, SJ PJ2_, SS, SR A3_, SU, SU, SU, SU, SU, SU, SU, SU, SU, SU, SU, SU, SU, SU, SU, SU, SU] := by
  by_cases hm0 : (P1_ &&& (2 : Int32)) = (0 : Int32)
  ·
    exact jLi at_16 rfl (jkI 2 at_17 rfl (jiand at_18 (jieqY 26 at_19 hm0 (jkI 0 at_26 rfl (jtI at_27 #[SI P1_, SJ PJ2_, SS, SR A3_, SI 0, SU, SU, SU, SU, SU, SU, SU, SU, SU, SU, SU, SU, SU, SU, SU, SU] rfl (own_mono (tl2 hw fm1_ fm2_ fm3_ fm4_ fm5_ fm6_ fm7_ fm8_ fm9_ fm10_ fm11_ fm12_ fm13_ fm14_ fm15_.lt fm15_)))))))
  ·
    exact jLi at_16 rfl (jkI 2 at_17 rfl (jiand at_18 (jieqN at_19 hm0 (jkI 1 at_22 rfl (jgo 27 at_23 (jtI at_27 #[SI P1_, SJ PJ2_, SS, SR A3_, SI 1, SU, SU, SU, SU, SU, SU, SU, SU, SU, SU, SU, SU, SU, SU, SU, SU] rfl (own_mono (tl2 hw fm1_ fm2_ fm3_ fm4_ fm5_ fm6_ fm7_ fm8_ fm9_ fm10_ fm11_ fm12_ fm13_ fm14_ fm15_.lt fm15_))))))))
set_option maxRecDepth 65536 in
set_option maxHeartbeats 40000000 in
theorem rm19_5 {a1 a2 a3 a6 a26 : Addr} (hw : HW a0 Z) (f4 : Fld Z h0 a2 cC18 "mode" cC3 (VR a3)) (f5 : Sta Z Z.heap cC2 "EXCLUSIVE" cC3 (VR a3)) (f7 : Fld Z h0 a2 cC18 "transaction" cC10 (VR a6)) (f8 : Exa Z h0 a1 cC8) (f9 : Fld Z h0 a1 cC8 "others" cC11 (.null)) (f11 : Fld Z h0 a1 cC8 "exclusive" cC10 (.null)) (f12 : Z.heap.size ≤ a1) (f16 : Exa Z h0 a2 cC18) (f18 : Fld Z h0 a2 cC18 "granted" "Z" (VI 0)) (f19 : a2 ≠ a1) (f21 : Z.heap.size ≤ a2) (f27 : Fld Z h0 a1 cC8 "key" cC9 (VR a26)) (f29 : Fld Z h0 a1 cC8 "version" cC1 (.null)) (f34 : Fld Z h0 a2 cC18 "row" cC19 (VR a1)) (f36 : Fld Z h0 a2 cC18 "first" "Z" (VI 1)) :
    own_M l Z h0 yM22 c19 3 none 1 0 0 16 #[VR a1, VR a2] (fun v h => v = none ∧ Keep h0 h [a1, a2] ∧ Exa Z h a1 cC8 ∧ Fld Z h a1 cC8 "others" cC11 (.null) ∧ Fld Z h a1 cC8 "exclusive" cC10 (VR a6) ∧ Fld Z h a1 cC8 "key" cC9 (VR a26) ∧ Fld Z h a1 cC8 "version" cC1 (.null) ∧ Fld Z h a2 cC18 "mode" cC3 (VR a3) ∧ Fld Z h a2 cC18 "transaction" cC10 (VR a6) ∧ Exa Z h a2 cC18 ∧ Fld Z h a2 cC18 "granted" "Z" (VI 1) ∧ Fld Z h a2 cC18 "row" cC19 (VR a1) ∧ Fld Z h a2 cC18 "first" "Z" (VI 1)) := by
  refine own_ent hw (plainFor_of_name pn2) #[SR a1, SR a2, SU] (fun _ => rfl) fun Q k => ?_
  refine jLa d19_0 rfl (jgR 147 f4 d19_1 (jgS 148 f5 d19_4 (jac 10 d19_7 (decide_eq_true rfl) (jLa d19_10 rfl (jLa d19_11 rfl (jgR 236 f7 d19_12 (jcP 0 82 4 84 83 5 85 (rm11_1 hw f9) f8 pd6 d19_15 rfl ?_)))))))
  rintro _ _ ⟨rfl, rfl⟩
  refine jnta d19_18 #[SR a1, SR a2, SN] rfl (jLa d19_19 rfl (jLa d19_20 rfl (jgR 236 f7 d19_21 (jpFR 66 67 4 f11 f8 f12 d19_24 fun h13 W13 F13 => ?_))))
  have F15 := fS f9 W13 (lA hw 69) (lA hw 67)
  have F17 := f16.wr W13
  refine jLa d19_27 rfl (jgF 68 F15 d19_28 (jzY 56 d19_31 (jgo 90 d19_56 (jLa d19_90 rfl (jkI 1 d19_91 rfl (jpRZ 175 176 76 (fW f18 W13 f19) F17 f21 d19_92 fun h22 W22 F22 => ?_))))))
  exact jrV d19_95 (k _ _ ⟨rfl, (((Keep.refl h0 [a1, a2]).wr W13 (mI 0)).wr W22 (mI 1)), ((f8.wr W13).wr W22), (fW F15 W22 f19.symm), (fW F13 W22 f19.symm), (fW (fS f27 W13 (lB hw 21) (lA hw 67)) W22 f19.symm), (fW (fS f29 W13 (lA hw 419) (lA hw 67)) W22 f19.symm), (fS (fW f4 W13 f19) W22 (lB hw 95) (lA hw 176)), (fS (fW f7 W13 f19) W22 (lB hw 93) (lA hw 176)), (F17.wr W22), F22, (fS (fW f34 W13 f19) W22 (lB hw 91) (lA hw 176)), (fS (fW f36 W13 f19) W22 (lB hw 97) (lA hw 176))⟩)
set_option maxRecDepth 65536 in
set_option maxHeartbeats 40000000 in
theorem rm9_6 {a1 a2 a3 a20 a24 a37 : Addr} (hw : HW a0 Z) (f10 : Exa Z h0 a1 cC8) (f12 : Fld Z h0 a1 cC8 "exclusive" cC10 (.null)) (f14 : Fld Z h0 a1 cC8 "others" cC11 (.null)) (f21 : Sta Z Z.heap cC2 "SHARED" cC3 (VR a20)) (f22 : a3 ≠ a20) (f25 : Sta Z Z.heap cC21 "DEFAULTCAPACITY_EMPTY_ELEMENTDATA" cC1 (VR a24)) (f30 : Sta Z Z.heap cC2 "EXCLUSIVE" cC3 (VR a3)) (f34 : Z.heap.size ≤ a1) (f38 : Fld Z h0 a1 cC8 "key" cC9 (VR a37)) (f40 : Fld Z h0 a1 cC8 "version" cC1 (.null)) :
    own_M l Z h0 yM24 c9 4 (some (.object cC18)) 6 2 8 79 #[VR a1, VR a2, VR a3] (fun v h => ∃ (b4 : Addr), v = some (VR b4) ∧ Keep h0 h [a1] ∧ h0.size ≤ b4 ∧ Exa Z h a1 cC8 ∧ Fld Z h a1 cC8 "others" cC11 (.null) ∧ Fld Z h a1 cC8 "exclusive" cC10 (VR a2) ∧ Fld Z h a1 cC8 "key" cC9 (VR a37) ∧ Fld Z h a1 cC8 "version" cC1 (.null) ∧ Exa Z h b4 cC18 ∧ Fld Z h b4 cC18 "mode" cC3 (VR a3) ∧ Fld Z h b4 cC18 "transaction" cC10 (VR a2) ∧ Fld Z h b4 cC18 "granted" "Z" (VI 1) ∧ Fld Z h b4 cC18 "row" cC19 (VR a1) ∧ Fld Z h b4 cC18 "first" "Z" (VI 1)) := by
  refine own_ent hw (plainFor_of_name pn2) #[SR a1, SR a2, SR a3, SU] (fun _ => rfl) fun Q k => ?_
  refine jnew 75 76 77 d9_0 fun b4 h4 g4 u4 E4 A4 D4 => ?_
  have F11 := f10.ext E4
  have F13 := f12.ext E4
  have F15 := f14.ext E4
  refine jdU d9_3 rfl (jLa d9_4 rfl (jLa d9_5 rfl (jLa d9_6 rfl (jLa d9_7 rfl (jLa d9_8 rfl (jcP 5 78 4 80 79 5 81 (rm10_1 hw F13 F11 F15) F11 pd7 d9_9 rfl ?_))))))
  rintro _ _ ⟨rfl, rfl⟩
  refine jineN d9_12 (by decide) (jkI 1 d9_15 rfl (jgo 20 d9_16 (jcR 1 86 87 77 88 (rm12_1 hw A4 (dN D4 (lB hw 91)) u4 (dN D4 (lB hw 93)) (dN D4 (lB hw 95)) (dZ D4 (lB hw 97)) (dZ D4 (lA hw 176))) pd8 d9_20 rfl ?_)))
  rintro _ h17 ⟨rfl, K17, o0_17, o1_17, o2_17, o3_17, o4_17, o5_17⟩
  have v18 := own_lo f10.lt g4
  have F19 := F13.keep K17 (ninS v18 nin0)
  have F23 := F11.keep K17
  have F26 := F15.keep K17 (ninS v18 nin0)
  refine jta d9_23 #[SR a1, SR a2, SR a3, SR b4] rfl (jLa d9_24 rfl (jgF 66 F19 d9_25 (jLa d9_28 rfl (jac 32 d9_29 (decide_eq_false nofun) (jLa d9_32 rfl (jgS 98 f21 d9_33 (jac 55 d9_36 (own_dn f22) (jLa d9_55 rfl (jLa d9_56 rfl (jcP 0 99 4 101 100 5 102 (rm13_1 hw F23 f25 F19 F26) F23 pd10 d9_57 rfl ?_))))))))))
  rintro _ h27 ⟨rfl, K27⟩
  have F28 := F23.keep K27
  refine jieqN d9_60 (by decide) (jLa d9_63 rfl (jLa d9_64 rfl (jcP 0 143 4 145 144 5 146 (rm19_5 hw (o3_17.keep K27 nin0) f30 (o2_17.keep K27 nin0) F28 (F26.keep K27 nin0) (F19.keep K27 nin0) f34 (o0_17.keep K27) (o5_17.keep K27 nin0) v18.symm u4 (((f38.ext E4).keep K17 (ninS v18 nin0)).keep K27 nin0) (((f40.ext E4).keep K17 (ninS v18 nin0)).keep K27 nin0) (o1_17.keep K27 nin0) (o4_17.keep K27 nin0)) F28 pd15 d9_65 rfl ?_)))
  rintro _ h44 ⟨rfl, K44, o0_44, o1_44, o2_44, o3_44, o4_44, o5_44, o6_44, o7_44, o8_44, o9_44, o10_44⟩
  refine jgo 82 d9_68 (jLa d9_82 rfl (jcP 0 177 4 179 178 5 180 (rm24_3 hw o1_44) o0_44 pd0 d9_83 rfl ?_))
  rintro _ _ ⟨rfl, rfl⟩
  exact jLa d9_86 rfl (jrA d9_87 (k _ _ ⟨b4, rfl, (((((Keep.refl h0 [a1]).ext E4).trans K17 (allS (Or.inr g4) all0)).trans K27 all0).trans K44 (allS (mI 0) (allS (Or.inr g4) all0))), g4, o0_44, o1_44, o2_44, o3_44, o4_44, o7_44, o5_44, o6_44, o8_44, o9_44, o10_44⟩))
set_option maxRecDepth 65536 in
set_option maxHeartbeats 40000000 in
theorem tl69 {D0_ D1_ D2_ D3_ D4_ D5_ D6_ : Slot} {G7_ : Int32} {D8_ : Slot} {A10_ A11_ A12_ : Addr} {D16_ : Slot} {A14_ : Addr} (hw : HW a0 Z) (fm1_ : Exa Z h0 A10_ cC8) (fm2_ : Fld Z h0 A10_ cC8 "exclusive" cC10 (VR A11_)) (fm3_ : A11_ ≠ A12_) (fm4_ : Fld Z h0 A10_ cC8 "others" cC11 (.null)) (fm5_ : Fld Z h0 A10_ cC8 "version" cC1 (.null)) (fm6_ : Fld Z h0 A10_ cC8 "key" cC9 (VR A14_)) (fm7_ : Z.heap.size ≤ A10_) :
    own_T l Z a0 A h0 15 77 234 #[D0_, D1_, D2_, D3_, D4_, D5_, D6_, SI G7_, D8_, SR A10_, SR A11_, SR A12_, SI 1, SI 0, SN, SI 0, D16_, SI 0, SU, SU, SU] := by
  by_cases hm0 : G7_ = (0 : Int32)
  ·
    refine jLI at_234 rfl (jieqY 250 at_236 (by decide) (jLI at_250 rfl (jieqY 266 at_252 hm0 (jLA at_266 rfl (jLA at_268 rfl (jcV 0 181 182 184 183 5 185 (nfS hw 184) (rm25_9 hw fm2_ fm3_ fm1_ fm4_) fm1_ pd7 at_270 rfl ?_))))))
    rintro _ _ ⟨rfl, rfl⟩
    exact jpO at_273 rfl (own_mono (tl55 hw fm1_ fm2_ hm0 fm5_ fm4_ fm6_ fm7_))
  ·
    refine jLI at_234 rfl (jieqY 250 at_236 (by decide) (jLI at_250 rfl (jieqN at_252 hm0 (jLA at_255 rfl (jLA at_257 rfl (jcV 0 181 182 184 183 5 185 (nfS hw 184) (rm25_8 hw fm2_ fm1_ fm7_ fm5_ fm4_ fm6_) fm1_ pd7 at_259 rfl ?_))))))
    rintro _ h1 ⟨rfl, K1, o0_1, o1_1, o2_1, o3_1, o4_1⟩
    exact jpO at_262 rfl (jgo 274 at_263 (own_mono (tl18 hw o1_1 o0_1 o3_1 hm0)))
set_option maxRecDepth 65536 in
set_option maxHeartbeats 40000000 in
theorem tl68 {D0_ D1_ D2_ D3_ D4_ D5_ D6_ : Slot} {G7_ G8_ : Int32} {A10_ A11_ A12_ A13_ : Addr} (hw : HW a0 Z) (fm1_ : Exa Z h0 A10_ cC8) (fm2_ : Fld Z h0 A10_ cC8 "exclusive" cC10 (VR A11_)) (fm3_ : A11_ ≠ A12_) (fm4_ : Fld Z h0 A10_ cC8 "others" cC11 (.null)) (fm5_ : Fld Z h0 A10_ cC8 "version" cC1 (.null)) (fm6_ : Fld Z h0 A10_ cC8 "key" cC9 (VR A13_)) (fm7_ : Z.heap.size ≤ A10_) :
    own_T l Z a0 A h0 15 77 217 #[D0_, D1_, D2_, D3_, D4_, D5_, D6_, SI G7_, SI G8_, SR A10_, SR A11_, SR A12_, SI 1, SI 0, SN, SI 0, SI 0, SU, SU, SU, SU] := by
  exact jLI at_217 rfl (jieqY 231 at_219 (by decide) (jkI 0 at_231 rfl (jtI at_232 #[D0_, D1_, D2_, D3_, D4_, D5_, D6_, SI G7_, SI G8_, SR A10_, SR A11_, SR A12_, SI 1, SI 0, SN, SI 0, SI 0, SI 0, SU, SU, SU] rfl (own_mono (tl69 hw fm1_ fm2_ fm3_ fm4_ fm5_ fm6_ fm7_)))))
set_option maxRecDepth 65536 in
set_option maxHeartbeats 40000000 in
theorem tl67 {D0_ D1_ D2_ : Slot} {A4_ : Addr} {D4_ D5_ : Slot} {A7_ : Addr} {G7_ G8_ : Int32} {A10_ A11_ A12_ A13_ : Addr} (hw : HW a0 Z) (fm1_ : Exa Z h0 A10_ cC8) (fm2_ : Fld Z h0 A10_ cC8 "exclusive" cC10 (VR A11_)) (fm3_ : A11_ ≠ A12_) (fm4_ : Fld Z h0 A10_ cC8 "others" cC11 (.null)) (fm5_ : Fld Z h0 A10_ cC8 "version" cC1 (.null)) (fm6_ : Fld Z h0 A10_ cC8 "key" cC9 (VR A13_)) (fm7_ : Z.heap.size ≤ A10_) :
    own_T l Z a0 A h0 15 77 190 #[D0_, D1_, D2_, SR A4_, D4_, D5_, SR A7_, SI G7_, SI G8_, SR A10_, SR A11_, SR A12_, SI 1, SI 0, SN, SI 0, SU, SU, SU, SU, SU] := by
  exact jLI at_190 rfl (jieqY 214 at_192 (by decide) (jkI 0 at_214 rfl (jtI at_215 #[D0_, D1_, D2_, SR A4_, D4_, D5_, SR A7_, SI G7_, SI G8_, SR A10_, SR A11_, SR A12_, SI 1, SI 0, SN, SI 0, SI 0, SU, SU, SU, SU] rfl (own_mono (tl68 hw fm1_ fm2_ fm3_ fm4_ fm5_ fm6_ fm7_)))))
set_option maxRecDepth 65536 in
set_option maxHeartbeats 40000000 in
theorem tl66 {D0_ D1_ D2_ : Slot} {A4_ : Addr} {G4_ G5_ : Int32} {A7_ : Addr} {G7_ G8_ : Int32} {A10_ A11_ A12_ A13_ : Addr} (hw : HW a0 Z) (fm1_ : G4_ = (0 : Int32)) (fm2_ : Exa Z h0 A10_ cC8) (fm3_ : Fld Z h0 A10_ cC8 "exclusive" cC10 (VR A11_)) (fm4_ : A11_ ≠ A12_) (fm5_ : Fld Z h0 A10_ cC8 "others" cC11 (.null)) (fm6_ : Fld Z h0 A10_ cC8 "version" cC1 (.null)) (fm7_ : Fld Z h0 A10_ cC8 "key" cC9 (VR A13_)) (fm8_ : Z.heap.size ≤ A10_) :
    own_T l Z a0 A h0 15 77 173 #[D0_, D1_, D2_, SR A4_, SI G4_, SI G5_, SR A7_, SI G7_, SI G8_, SR A10_, SR A11_, SR A12_, SI 1, SI 0, SN, SU, SU, SU, SU, SU, SU] := by
  exact jLI at_173 rfl (jieqY 187 at_175 fm1_ (jkI 0 at_187 rfl (jtI at_188 #[D0_, D1_, D2_, SR A4_, SI G4_, SI G5_, SR A7_, SI G7_, SI G8_, SR A10_, SR A11_, SR A12_, SI 1, SI 0, SN, SI 0, SU, SU, SU, SU, SU] rfl (own_mono (tl67 hw fm2_ fm3_ fm4_ fm5_ fm6_ fm7_ fm8_)))))
set_option maxRecDepth 65536 in
set_option maxHeartbeats 40000000 in
theorem rm10_4 {a1 a2 a3 : Addr} (hw : HW a0 Z) (f4 : Fld Z h0 a1 cC8 "exclusive" cC10 (VR a3)) (f5 : a3 ≠ a2) (f6 : Exa Z h0 a1 cC8) (f7 : Fld Z h0 a1 cC8 "others" cC11 (.null)) :
    own_M l Z h0 yM10 c10 2 (some .boolean) 1 0 0 16 #[VR a1, VR a2] (fun v h => v = some (VI 0) ∧ h0 = h) := by
  refine own_ent hw (plainFor_of_name pn2) #[SR a1, SR a2] (fun _ => rfl) fun Q k => ?_
  refine jLa d10_0 rfl (jgF 66 f4 d10_1 (jLa d10_4 rfl (jac 8 d10_5 (own_dn f5) (jLa d10_8 rfl (jLa d10_9 rfl (jcP 0 82 4 84 83 5 85 (rm11_1 hw f7) f6 pd6 d10_10 rfl ?_))))))
  rintro _ _ ⟨rfl, rfl⟩
  exact jzY 20 d10_13 (jkI 0 d10_20 rfl (jrZ d10_21 (k _ _ ⟨rfl, rfl⟩)))
set_option maxRecDepth 65536 in
set_option maxHeartbeats 40000000 in
theorem rm14_7 {a1 a2 a7 a10 : Addr} {k14 : ClassId} (hw : HW a0 Z) (f8 : Sta Z Z.heap cC21 "DEFAULTCAPACITY_EMPTY_ELEMENTDATA" cC1 (VR a7)) (f11 : Fld Z h0 a1 cC8 "exclusive" cC10 (VR a10)) (f15 : Arv Z h0 a7 k14 (.object "java/lang/Object") 0 [] (.null)) (f18 : Exa Z h0 a10 cC15) (f21 : Fld Z h0 a1 cC8 "others" cC11 (.null)) :
    own_M l Z h0 yM15 c14 6 (some (.object cC23)) 5 2 13 69 #[VR a1, VR a2] (fun v h => ∃ (b3 b10_12_13_21_20 : Addr) (k10_12_13_21_20 : ClassId), v = some (VR b3) ∧ Keep h0 h [] ∧ h0.size ≤ b3 ∧ h0.size ≤ b10_12_13_21_20 ∧ b3 ≠ b10_12_13_21_20 ∧ Ovr Z k10_12_13_21_20 cC24 ∧ Exa Z h b3 cC21 ∧ Fld Z h b3 cC21 "elementData" cC1 (VR b10_12_13_21_20) ∧ Fld Z h b3 cC21 "size" "I" (VI 1) ∧ Fld Z h b3 cC22 "modCount" "I" (VI 1) ∧ Arv Z h b10_12_13_21_20 k10_12_13_21_20 (.object "java/lang/Object") 10 [VR a10, .null, .null, .null, .null, .null, .null, .null, .null, .null] (.null) ∧ Exa Z h b10_12_13_21_20 cC1) := by
  refine own_ent hw (plainFor_of_name pn2) #[SR a1, SR a2, SU, SU, SU, SU] (fun _ => rfl) fun Q k => ?_
  refine jnew 108 109 110 d14_0 fun b3 h3 g3 u3 E3 A3 D3 => ?_
  refine jdU d14_3 rfl (jcI 1 111 112 110 113 (rm15_1 hw A3 (dI D3 (lA hw 128)) u3 (dN D3 (lA hw 131)) (dI D3 (lA hw 142)) f8) pd0 d14_4 rfl ?_)
  rintro _ h9 ⟨rfl, K9, o0_9, o1_9, o2_9, o3_9⟩
  have v12 := own_lo f11.lt g3
  have F13 := (f11.ext E3).keep K9 (ninS v12 nin0)
  have v16 := own_lo f15.lt g3
  refine jta d14_7 #[SR a1, SR a2, SR b3, SU, SU, SU] rfl (jLa d14_8 rfl (jgF 66 F13 d14_9 (jzN d14_12 (jLa d14_15 rfl (jLa d14_16 rfl (jgF 66 F13 d14_17 (jcF 0 159 160 161 162 163 164 165 139 110 166 (rm22_3 hw o1_9 o0_9 u3 o2_9 o3_9 ((f15.ext E3).keep K9 (ninS v16 nin0)) v16 f8 ((f18.ext E3).keep K9)) o0_9 pd14 d14_20 rfl ?_)))))))
  rintro _ h20 ⟨b10_12_13_21_20, k10_12_13_21_20, rfl, K20, lob10_12_13_21_20, ovk10_12_13_21_20, o0_20, o1_20, o2_20, o3_20, o4_20, o5_20⟩
  exact jpO d14_25 rfl (jkI 1 d14_26 rfl (jti d14_27 #[SR a1, SR a2, SR b3, SI 1, SU, SU] rfl (jkI 0 d14_28 rfl (jtI d14_29 #[SR a1, SR a2, SR b3, SI 1, SI 0, SU] rfl (jLa d14_31 rfl (jgF 68 (((f21.ext E3).keep K9 (ninS v12 nin0)).keep K20 (ninS v12 nin0)) d14_32 (jzY 136 d14_35 (jLa d14_136 rfl (jrA d14_137 (k _ _ ⟨b3, b10_12_13_21_20, k10_12_13_21_20, rfl, ((((Keep.refl h0 []).ext E3).trans K9 (allS (Or.inr g3) all0)).trans K20 (allS (Or.inr g3) all0)), g3, (Nat.le_trans (Nat.le_trans E3.1 K9.1) lob10_12_13_21_20), (own_lo A3.lt (Nat.le_trans K9.1 lob10_12_13_21_20)), ovk10_12_13_21_20, o0_20, o1_20, o2_20, o3_20, o4_20, o5_20⟩))))))))))
set_option maxRecDepth 65536 in
set_option maxHeartbeats 40000000 in
theorem rm13_7 {a1 a2 a4 a6 : Addr} {k8 : ClassId} (hw : HW a0 Z) (f3 : Exa Z h0 a1 cC8) (f5 : Sta Z Z.heap cC21 "DEFAULTCAPACITY_EMPTY_ELEMENTDATA" cC1 (VR a4)) (f7 : Fld Z h0 a1 cC8 "exclusive" cC10 (VR a6)) (f9 : Arv Z h0 a4 k8 (.object "java/lang/Object") 0 [] (.null)) (f10 : Exa Z h0 a6 cC15) (f11 : Fld Z h0 a1 cC8 "others" cC11 (.null)) :
    own_M l Z h0 yM17 c13 2 (some .boolean) 6 2 13 86 #[VR a1, VR a2] (fun v h => v = some (VI 0) ∧ Keep h0 h []) := by
  refine own_ent hw (plainFor_of_name pn2) #[SR a1, SR a2] (fun _ => rfl) fun Q k => ?_
  refine jLa d13_0 rfl (jLa d13_1 rfl (jcV 0 103 104 106 105 5 107 (nfS hw 106) (rm14_7 hw f5 f7 f9 f10 f11) f3 pd9 d13_2 rfl ?_))
  rintro _ h12 ⟨b3_12, b10_12_13_21_20_12, k10_12_13_21_20_12, rfl, K12, lob3_12, lob10_12_13_21_20_12, neb3b10_12_13_21_20_12, ovk10_12_13_21_20_12, o0_12, o1_12, o2_12, o3_12, o4_12, o5_12⟩
  refine jcF 0 132 133 134 135 136 137 138 139 110 140 (rm18_2 hw o2_12) o0_12 pd5 d13_5 rfl ?_
  rintro _ _ ⟨rfl, rfl⟩
  exact jrZ d13_10 (k _ _ ⟨rfl, ((Keep.refl h0 []).trans K12 all0)⟩)
set_option maxRecDepth 65536 in
set_option maxHeartbeats 40000000 in
theorem rm20_3 {a1 a15 a18 : Addr} (hw : HW a0 Z) (f2 : Fld Z h0 a1 cC8 "others" cC11 (.null)) (f8 : Exa Z h0 a1 cC8) (f12 : Z.heap.size ≤ a1) (f16 : Fld Z h0 a1 cC8 "exclusive" cC10 (VR a15)) (f19 : Fld Z h0 a1 cC8 "key" cC9 (VR a18)) (f21 : Fld Z h0 a1 cC8 "version" cC1 (.null)) :
    own_M l Z h0 yM19 c20 1 (some (.object cC23)) 4 2 5 51 #[VR a1] (fun v h => ∃ (b3 b9_7 : Addr) (k9_7 : ClassId), v = some (VR b3) ∧ Keep h0 h [a1] ∧ h0.size ≤ b3 ∧ h0.size ≤ b9_7 ∧ b3 ≠ b9_7 ∧ Ovr Z k9_7 cC24 ∧ Fld Z h a1 cC8 "others" cC11 (VR b3) ∧ Exa Z h a1 cC8 ∧ Fld Z h a1 cC8 "exclusive" cC10 (VR a15) ∧ Fld Z h a1 cC8 "key" cC9 (VR a18) ∧ Fld Z h a1 cC8 "version" cC1 (.null) ∧ Exa Z h b3 cC21 ∧ Fld Z h b3 cC22 "modCount" "I" (VI 0) ∧ Fld Z h b3 cC21 "elementData" cC1 (VR b9_7) ∧ Fld Z h b3 cC21 "size" "I" (VI 0) ∧ Arv Z h b9_7 k9_7 (.object "java/lang/Object") 2 [.null, .null] (.null) ∧ Exa Z h b9_7 cC1) := by
  refine own_ent hw (plainFor_of_name pn2) #[SR a1] (fun _ => rfl) fun Q k => ?_
  refine jLa d20_0 rfl (jgF 68 f2 d20_1 (jyN d20_4 (jLa d20_7 rfl (jnew 108 109 110 d20_8 fun b3 h3 g3 u3 E3 A3 D3 => ?_))))
  refine jdU d20_11 rfl (jkI 2 d20_12 rfl (jcI 2 154 155 110 156 (rm21_1 hw A3 (dI D3 (lA hw 128)) (dN D3 (lA hw 131)) (dI D3 (lA hw 142)) u3) pd11 d20_13 rfl ?_))
  rintro _ h7 ⟨b9_7, k9_7, rfl, K7, lob9_7, ovk9_7, o0_7, o1_7, o2_7, o3_7, o4_7, o5_7⟩
  have F9 := (f8.ext E3).keep K7
  have v10 := own_lo f2.lt g3
  refine jpFR 68 69 4 ((f2.ext E3).keep K7 (ninS v10 nin0)) F9 f12 d20_16 fun h13 W13 F13 => ?_
  have z28 := E3.1
  exact jLa d20_19 rfl (jgF 68 F13 d20_20 (jrA d20_23 (k _ _ ⟨b3, b9_7, k9_7, rfl, ((((Keep.refl h0 [a1]).ext E3).trans K7 (allS (Or.inr g3) all0)).wr W13 (mI 0)), g3, (Nat.le_trans z28 lob9_7), (own_lo A3.lt lob9_7), ovk9_7, F13, (F9.wr W13), (fS ((f16.ext E3).keep K7 (ninS v10 nin0)) W13 (lA hw 67) (lA hw 69)), (fS ((f19.ext E3).keep K7 (ninS v10 nin0)) W13 (lB hw 21) (lA hw 69)), (fS ((f21.ext E3).keep K7 (ninS v10 nin0)) W13 (lA hw 419) (lA hw 69)), (o0_7.wr W13), (fW o1_7 W13 v10.symm), (fW o2_7 W13 v10.symm), (fW o3_7 W13 v10.symm), (o4_7.other W13 (own_lo f2.lt (Nat.le_trans z28 lob9_7)).symm), (o5_7.wr W13)⟩)))
set_option maxRecDepth 65536 in
set_option maxHeartbeats 40000000 in
theorem rm9_7 {a1 a2 a3 a12 a26 : Addr} {k28 : ClassId} {a39 : Addr} (hw : HW a0 Z) (f10 : Exa Z h0 a1 cC8) (f13 : Fld Z h0 a1 cC8 "exclusive" cC10 (VR a12)) (f15 : a12 ≠ a2) (f16 : Fld Z h0 a1 cC8 "others" cC11 (.null)) (f22 : Sta Z Z.heap cC2 "SHARED" cC3 (VR a3)) (f27 : Sta Z Z.heap cC21 "DEFAULTCAPACITY_EMPTY_ELEMENTDATA" cC1 (VR a26)) (f29 : Arv Z h0 a26 k28 (.object "java/lang/Object") 0 [] (.null)) (f32 : Exa Z h0 a12 cC15) (f38 : Z.heap.size ≤ a1) (f40 : Fld Z h0 a1 cC8 "key" cC9 (VR a39)) (f42 : Fld Z h0 a1 cC8 "version" cC1 (.null)) :
    own_M l Z h0 yM24 c9 4 (some (.object cC18)) 7 5 23 99 #[VR a1, VR a2, VR a3] (fun v h => ∃ (b4 b3_44 b9_7_44 : Addr) (k9_7_44 : ClassId), v = some (VR b4) ∧ Keep h0 h [a1] ∧ h0.size ≤ b4 ∧ h0.size ≤ b3_44 ∧ h0.size ≤ b9_7_44 ∧ b4 ≠ b3_44 ∧ b4 ≠ b9_7_44 ∧ b3_44 ≠ b9_7_44 ∧ Ovr Z k9_7_44 cC24 ∧ Exa Z h a1 cC8 ∧ Fld Z h a1 cC8 "others" cC11 (VR b3_44) ∧ Fld Z h a1 cC8 "exclusive" cC10 (VR a12) ∧ Fld Z h a1 cC8 "key" cC9 (VR a39) ∧ Fld Z h a1 cC8 "version" cC1 (.null) ∧ Exa Z h b4 cC18 ∧ Fld Z h b4 cC18 "row" cC19 (VR a1) ∧ Fld Z h b4 cC18 "transaction" cC10 (VR a2) ∧ Fld Z h b4 cC18 "mode" cC3 (VR a3) ∧ Fld Z h b4 cC18 "first" "Z" (VI 1) ∧ Fld Z h b4 cC18 "granted" "Z" (VI 0) ∧ Exa Z h b3_44 cC21 ∧ Fld Z h b3_44 cC21 "size" "I" (VI 1) ∧ Fld Z h b3_44 cC22 "modCount" "I" (VI 1) ∧ Fld Z h b3_44 cC21 "elementData" cC1 (VR b9_7_44) ∧ Exa Z h b9_7_44 cC1 ∧ Arv Z h b9_7_44 k9_7_44 (.object "java/lang/Object") 2 [VR b4, .null] (.null)) := by
  refine own_ent hw (plainFor_of_name pn2) #[SR a1, SR a2, SR a3, SU] (fun _ => rfl) fun Q k => ?_
  refine own_z fun Z0 => ?_
  refine jnew 75 76 77 d9_0 fun b4 h4 g4 u4 E4 A4 D4 => ?_
  have F11 := f10.ext E4
  have F14 := f13.ext E4
  have F17 := f16.ext E4
  refine jdU d9_3 rfl (jLa d9_4 rfl (jLa d9_5 rfl (jLa d9_6 rfl (jLa d9_7 rfl (jLa d9_8 rfl (jcP 5 78 4 80 79 5 81 (rm10_4 hw F14 f15 F11 F17) F11 pd7 d9_9 rfl ?_))))))
  rintro _ _ ⟨rfl, rfl⟩
  refine jineN d9_12 (by decide) (jkI 1 d9_15 rfl (jgo 20 d9_16 (jcR 1 86 87 77 88 (rm12_1 hw A4 (dN D4 (lB hw 91)) u4 (dN D4 (lB hw 93)) (dN D4 (lB hw 95)) (dZ D4 (lB hw 97)) (dZ D4 (lA hw 176))) pd8 d9_20 rfl ?_)))
  rintro _ h19 ⟨rfl, K19, o0_19, o1_19, o2_19, o3_19, o4_19, o5_19⟩
  have v20 := own_lo f10.lt g4
  have F21 := F14.keep K19 (ninS v20 nin0)
  have F23 := F11.keep K19
  have F24 := F17.keep K19 (ninS v20 nin0)
  refine jta d9_23 #[SR a1, SR a2, SR a3, SR b4] rfl (jLa d9_24 rfl (jgF 66 F21 d9_25 (jLa d9_28 rfl (jac 32 d9_29 (own_dn f15) (jLa d9_32 rfl (jgS 98 f22 d9_33 (jac 39 d9_36 (decide_eq_true rfl) (jLa d9_39 rfl (jLa d9_40 rfl (jcP 0 82 4 84 83 5 85 (rm11_1 hw F24) F23 pd6 d9_41 rfl ?_))))))))))
  rintro _ _ ⟨rfl, rfl⟩
  refine jzY 55 d9_44 (jLa d9_55 rfl (jLa d9_56 rfl (jcP 0 99 4 101 100 5 102 (rm13_7 hw F23 f27 F21 ((f29.ext E4).keep K19 (ninS (own_lo f29.lt g4) nin0)) ((f32.ext E4).keep K19) F24) F23 pd10 d9_57 rfl ?_)))
  rintro _ h34 ⟨rfl, K34⟩
  have F35 := F23.keep K34
  refine jieqY 71 d9_60 (by decide) (jLa d9_71 rfl (jcP 0 150 4 152 151 5 153 (rm20_3 hw (F24.keep K34 nin0) F35 f38 (F21.keep K34 nin0) (((f40.ext E4).keep K19 (ninS v20 nin0)).keep K34 nin0) (((f42.ext E4).keep K19 (ninS v20 nin0)).keep K34 nin0)) F35 pd12 d9_72 rfl ?_))
  rintro _ h44 ⟨b3_44, b9_7_44, k9_7_44, rfl, K44, lob3_44, lob9_7_44, neb3b9_7_44, ovk9_7_44, o0_44, o1_44, o2_44, o3_44, o4_44, o5_44, o6_44, o7_44, o8_44, o9_44, o10_44⟩
  have F45 := (o0_19.keep K34).keep K44
  have z49 := Nat.le_trans (Nat.le_trans E4.1 K19.1) K34.1
  refine jLa d9_75 rfl (jcF 0 159 160 161 162 163 164 165 139 110 166 (rm22_1 hw o6_44 o5_44 (Nat.le_trans Z0 (Nat.le_trans z49 lob3_44)) o7_44 o8_44 o9_44 neb3b9_7_44.symm (Nat.le_trans Z0 (Nat.le_trans z49 lob9_7_44)) ovk9_7_44 F45 o10_44) o5_44 pd14 d9_76 rfl ?_)
  rintro _ h51 ⟨rfl, K51, o0_51, o1_51, o2_51, o3_51, o4_51, o5_51⟩
  have F52 := o1_44.keep K51
  have v53 := own_lo f10.lt (Nat.le_trans z49 lob9_7_44)
  have v54 := own_lo f10.lt (Nat.le_trans z49 lob3_44)
  have F55 := o0_44.keep K51 (ninS v54 (ninS v53 nin0))
  refine jpO d9_81 rfl (jLa d9_82 rfl (jcP 0 177 4 179 178 5 180 (rm24_1 hw F55 o0_51 o1_51) F52 pd0 d9_83 rfl ?_))
  rintro _ _ ⟨rfl, rfl⟩
  have z63 := Nat.le_trans K19.1 K34.1
  have v61 := own_lo A4.lt (Nat.le_trans z63 lob9_7_44)
  have v64 := own_lo A4.lt (Nat.le_trans z63 lob3_44)
  exact jLa d9_86 rfl (jrA d9_87 (k _ _ ⟨b4, b3_44, b9_7_44, k9_7_44, rfl, ((((((Keep.refl h0 [a1]).ext E4).trans K19 (allS (Or.inr g4) all0)).trans K34 all0).trans K44 (allS (mI 0) all0)).trans K51 (allS (Or.inr (Nat.le_trans z49 lob3_44)) (allS (Or.inr (Nat.le_trans z49 lob9_7_44)) all0))), g4, (Nat.le_trans z49 lob3_44), (Nat.le_trans z49 lob9_7_44), v64, v61, neb3b9_7_44, ovk9_7_44, F52, F55, (o2_44.keep K51 (ninS v54 (ninS v53 nin0))), (o3_44.keep K51 (ninS v54 (ninS v53 nin0))), (o4_44.keep K51 (ninS v54 (ninS v53 nin0))), (F45.keep K51), (((o1_19.keep K34 nin0).keep K44 (ninS v20.symm nin0)).keep K51 (ninS v64 (ninS v61 nin0))), (((o2_19.keep K34 nin0).keep K44 (ninS v20.symm nin0)).keep K51 (ninS v64 (ninS v61 nin0))), (((o3_19.keep K34 nin0).keep K44 (ninS v20.symm nin0)).keep K51 (ninS v64 (ninS v61 nin0))), (((o4_19.keep K34 nin0).keep K44 (ninS v20.symm nin0)).keep K51 (ninS v64 (ninS v61 nin0))), (((o5_19.keep K34 nin0).keep K44 (ninS v20.symm nin0)).keep K51 (ninS v64 (ninS v61 nin0))), o0_51, o1_51, o2_51, o3_51, o4_51, o5_51⟩))
set_option maxRecDepth 65536 in
set_option maxHeartbeats 40000000 in
theorem rm14_8 {a1 a2 a7 a10 : Addr} {k14 : ClassId} {a21 a30 : Addr} {k33 : ClassId} (hw : HW a0 Z) (f8 : Sta Z Z.heap cC21 "DEFAULTCAPACITY_EMPTY_ELEMENTDATA" cC1 (VR a7)) (f11 : Fld Z h0 a1 cC8 "exclusive" cC10 (VR a10)) (f15 : Arv Z h0 a7 k14 (.object "java/lang/Object") 0 [] (.null)) (f18 : Exa Z h0 a10 cC15) (f22 : Fld Z h0 a1 cC8 "others" cC11 (VR a21)) (f24 : Exa Z h0 a21 cC21) (f26 : Fld Z h0 a21 cC21 "size" "I" (VI 1)) (f31 : Fld Z h0 a21 cC21 "elementData" cC1 (VR a30)) (f34 : Arv Z h0 a30 k33 (.object "java/lang/Object") 2 [VR a2, .null] (.null)) (f38 : Exa Z h0 a2 cC18) :
    own_M l Z h0 yM15 c14 6 (some (.object cC23)) 5 2 13 69 #[VR a1, VR a2] (fun v h => ∃ (b3 b10_12_13_21_20 : Addr) (k10_12_13_21_20 : ClassId), v = some (VR b3) ∧ Keep h0 h [] ∧ h0.size ≤ b3 ∧ h0.size ≤ b10_12_13_21_20 ∧ b3 ≠ b10_12_13_21_20 ∧ Ovr Z k10_12_13_21_20 cC24 ∧ Exa Z h b3 cC21 ∧ Fld Z h b3 cC21 "elementData" cC1 (VR b10_12_13_21_20) ∧ Fld Z h b3 cC21 "size" "I" (VI 1) ∧ Fld Z h b3 cC22 "modCount" "I" (VI 1) ∧ Arv Z h b10_12_13_21_20 k10_12_13_21_20 (.object "java/lang/Object") 10 [VR a10, .null, .null, .null, .null, .null, .null, .null, .null, .null] (.null) ∧ Exa Z h b10_12_13_21_20 cC1) := by
  refine own_ent hw (plainFor_of_name pn2) #[SR a1, SR a2, SU, SU, SU, SU] (fun _ => rfl) fun Q k => ?_
  refine jnew 108 109 110 d14_0 fun b3 h3 g3 u3 E3 A3 D3 => ?_
  refine jdU d14_3 rfl (jcI 1 111 112 110 113 (rm15_1 hw A3 (dI D3 (lA hw 128)) u3 (dN D3 (lA hw 131)) (dI D3 (lA hw 142)) f8) pd0 d14_4 rfl ?_)
  rintro _ h9 ⟨rfl, K9, o0_9, o1_9, o2_9, o3_9⟩
  have v12 := own_lo f11.lt g3
  have F13 := (f11.ext E3).keep K9 (ninS v12 nin0)
  have v16 := own_lo f15.lt g3
  refine jta d14_7 #[SR a1, SR a2, SR b3, SU, SU, SU] rfl (jLa d14_8 rfl (jgF 66 F13 d14_9 (jzN d14_12 (jLa d14_15 rfl (jLa d14_16 rfl (jgF 66 F13 d14_17 (jcF 0 159 160 161 162 163 164 165 139 110 166 (rm22_3 hw o1_9 o0_9 u3 o2_9 o3_9 ((f15.ext E3).keep K9 (ninS v16 nin0)) v16 f8 ((f18.ext E3).keep K9)) o0_9 pd14 d14_20 rfl ?_)))))))
  rintro _ h20 ⟨b10_12_13_21_20, k10_12_13_21_20, rfl, K20, lob10_12_13_21_20, ovk10_12_13_21_20, o0_20, o1_20, o2_20, o3_20, o4_20, o5_20⟩
  have F23 := ((f22.ext E3).keep K9 (ninS v12 nin0)).keep K20 (ninS v12 nin0)
  have F25 := ((f24.ext E3).keep K9).keep K20
  have v27 := own_lo f24.lt g3
  have F28 := ((f26.ext E3).keep K9 (ninS v27 nin0)).keep K20 (ninS v27 nin0)
  refine jpO d14_25 rfl (jkI 1 d14_26 rfl (jti d14_27 #[SR a1, SR a2, SR b3, SI 1, SU, SU] rfl (jkI 0 d14_28 rfl (jtI d14_29 #[SR a1, SR a2, SR b3, SI 1, SI 0, SU] rfl (jLa d14_31 rfl (jgF 68 F23 d14_32 (jzN d14_35 (jLI d14_38 rfl (jLa d14_40 rfl (jgF 68 F23 d14_41 (jcF 1 420 421 422 423 424 425 426 139 110 427 (rm56_1 hw F28) F25 pd27 d14_44 rfl ?_)))))))))))
  rintro _ _ ⟨rfl, rfl⟩
  have v35 := own_lo f34.lt g3
  refine jcgeN d14_49 (by decide) (jLa d14_52 rfl (jgF 68 F23 d14_53 (jLI d14_56 rfl (jcF 0 428 364 365 429 430 431 432 139 110 433 (rm57_1 hw F28 F25 (((f31.ext E3).keep K9 (ninS v27 nin0)).keep K20 (ninS v27 nin0)) (((f34.ext E3).keep K9 (ninS v35 nin0)).keep K20 (ninS v35 nin0))) F25 pd29 d14_58 rfl ?_))))
  rintro _ _ ⟨rfl, rfl⟩
  refine jcY 75 (Ins.self (((f38.ext E3).keep K9).keep K20)) d14_63 (jtA d14_66 #[SR a1, SR a2, SR b3, SI 1, SI 0, SR a2] rfl (jLA d14_68 rfl (jLa d14_70 rfl (jac 74 d14_71 (decide_eq_true rfl) (jkI 0 d14_74 rfl (jti d14_75 #[SR a1, SR a2, SR b3, SI 0, SI 0, SR a2] rfl (jgo 130 d14_76 (jiC d14_130 #[SR a1, SR a2, SR b3, SI 0, SI 1, SR a2] rfl rfl (jgo 31 d14_133 (jLa d14_31 rfl (jgF 68 F23 d14_32 (jzN d14_35 (jLI d14_38 rfl (jLa d14_40 rfl (jgF 68 F23 d14_41 ?_)))))))))))))))
  refine jcF 1 420 421 422 423 424 425 426 139 110 427 (rm56_1 hw F28) F25 pd27 d14_44 rfl ?_
  rintro _ _ ⟨rfl, rfl⟩
  exact jcgeY 136 d14_49 (by decide) (jLa d14_136 rfl (jrA d14_137 (k _ _ ⟨b3, b10_12_13_21_20, k10_12_13_21_20, rfl, ((((Keep.refl h0 []).ext E3).trans K9 (allS (Or.inr g3) all0)).trans K20 (allS (Or.inr g3) all0)), g3, (Nat.le_trans (Nat.le_trans E3.1 K9.1) lob10_12_13_21_20), (own_lo A3.lt (Nat.le_trans K9.1 lob10_12_13_21_20)), ovk10_12_13_21_20, o0_20, o1_20, o2_20, o3_20, o4_20, o5_20⟩)))
set_option maxRecDepth 65536 in
set_option maxHeartbeats 40000000 in
theorem rm13_8 {a1 a2 a4 a6 : Addr} {k8 : ClassId} {a11 a15 : Addr} {k17 : ClassId} (hw : HW a0 Z) (f3 : Exa Z h0 a1 cC8) (f5 : Sta Z Z.heap cC21 "DEFAULTCAPACITY_EMPTY_ELEMENTDATA" cC1 (VR a4)) (f7 : Fld Z h0 a1 cC8 "exclusive" cC10 (VR a6)) (f9 : Arv Z h0 a4 k8 (.object "java/lang/Object") 0 [] (.null)) (f10 : Exa Z h0 a6 cC15) (f12 : Fld Z h0 a1 cC8 "others" cC11 (VR a11)) (f13 : Exa Z h0 a11 cC21) (f14 : Fld Z h0 a11 cC21 "size" "I" (VI 1)) (f16 : Fld Z h0 a11 cC21 "elementData" cC1 (VR a15)) (f18 : Arv Z h0 a15 k17 (.object "java/lang/Object") 2 [VR a2, .null] (.null)) (f19 : Exa Z h0 a2 cC18) :
    own_M l Z h0 yM17 c13 2 (some .boolean) 6 2 13 86 #[VR a1, VR a2] (fun v h => v = some (VI 0) ∧ Keep h0 h []) := by
  refine own_ent hw (plainFor_of_name pn2) #[SR a1, SR a2] (fun _ => rfl) fun Q k => ?_
  refine jLa d13_0 rfl (jLa d13_1 rfl (jcV 0 103 104 106 105 5 107 (nfS hw 106) (rm14_8 hw f5 f7 f9 f10 f12 f13 f14 f16 f18 f19) f3 pd9 d13_2 rfl ?_))
  rintro _ h20 ⟨b3_20, b10_12_13_21_20_20, k10_12_13_21_20_20, rfl, K20, lob3_20, lob10_12_13_21_20_20, neb3b10_12_13_21_20_20, ovk10_12_13_21_20_20, o0_20, o1_20, o2_20, o3_20, o4_20, o5_20⟩
  refine jcF 0 132 133 134 135 136 137 138 139 110 140 (rm18_2 hw o2_20) o0_20 pd5 d13_5 rfl ?_
  rintro _ _ ⟨rfl, rfl⟩
  exact jrZ d13_10 (k _ _ ⟨rfl, ((Keep.refl h0 []).trans K20 all0)⟩)
set_option maxRecDepth 65536 in
set_option maxHeartbeats 40000000 in
theorem rm31_6 {a1 a2 a6 a9 : Addr} {k11 : ClassId} {a12 a15 a31 a33 : Addr} {k37 : ClassId} (hw : HW a0 Z) (f3 : Fld Z h0 a1 cC8 "others" cC11 (VR a2)) (f4 : Exa Z h0 a2 cC21) (f5 : Fld Z h0 a2 cC21 "size" "I" (VI 1)) (f7 : Fld Z h0 a2 cC21 "elementData" cC1 (VR a6)) (f8 : Exa Z h0 a6 cC1) (f10 : own_Mir Z cC1 a9) (f13 : Arv Z h0 a6 k11 (.object "java/lang/Object") 2 [VR a12, .null] (.null)) (f14 : Exa Z h0 a12 cC18) (f16 : Sta Z Z.heap cC34 "EMPTY" cC9 (VR a15)) (f26 : Fld Z h0 a12 cC18 "granted" "Z" (VI 0)) (f29 : Exa Z h0 a1 cC8) (f32 : Sta Z Z.heap cC21 "DEFAULTCAPACITY_EMPTY_ELEMENTDATA" cC1 (VR a31)) (f34 : Fld Z h0 a1 cC8 "exclusive" cC10 (VR a33)) (f38 : Arv Z h0 a31 k37 (.object "java/lang/Object") 0 [] (.null)) (f41 : Exa Z h0 a33 cC15) :
    own_M l Z h0 yM48 c31 4 (some .boolean) 8 5 20 100 #[VR a1] (fun v h => v = some (VI 0) ∧ Keep h0 h []) := by
  refine own_ent hw (plainFor_of_name pn2) #[SR a1, SU, SU, SU] (fun _ => rfl) fun Q k => ?_
  refine own_z fun Z0 => ?_
  refine jkI 0 d31_0 rfl (jti d31_1 #[SR a1, SI 0, SU, SU] rfl (jLa d31_2 rfl (jgF 68 f3 d31_3 (jzN d31_6 (jLa d31_9 rfl (jgF 68 f3 d31_10 (jcS 0 241 242 243 244 (rm32_1 hw f4 f5 f7 f8 f10 f13 f14 f16) pd26 d31_13 rfl ?_)))))))
  rintro _ h17 ⟨b5_17_15_17, rfl, K17, lob5_17_15_17, o0_17, o1_17, o2_17⟩
  refine jcF 0 186 187 188 324 325 326 327 328 305 329 (rm43_1 hw o0_17 o2_17 f16) o0_17 pd18 d31_16 rfl ?_
  rintro _ h18 ⟨b2_18, rfl, K18, lob2_18, o0_18, o1_18, o2_18, o3_18, o4_18⟩
  refine jta d31_21 #[SR a1, SI 0, SR b2_18, SU] rfl (jLa d31_22 rfl (jcF 0 209 210 211 352 353 354 355 356 332 357 (rm46_1 hw o3_18 o2_18) o0_18 pd5 d31_23 rfl ?_))
  rintro _ _ ⟨rfl, rfl⟩
  have z23 := K17.1
  refine jieqN d31_28 (by decide) (jLa d31_31 rfl (jcG 0 221 222 223 358 359 360 361 356 332 362 (rm47_1 hw o3_18 o1_18 (o0_17.keep K18) (o1_17.keep K18 nin0) o0_18 (Nat.le_trans Z0 (Nat.le_trans z23 lob2_18)) o2_18 o4_18) o0_18 pd19 d31_32 rfl ?_))
  rintro _ h24 ⟨rfl, K24, o0_24, o1_24, o2_24, o3_24, o4_24⟩
  have F25 := ((f14.keep K17).keep K18).keep K24
  have F30 := ((f29.keep K17).keep K18).keep K24
  have v35 := own_lo f3.lt (Nat.le_trans z23 lob2_18)
  have F43 := ((f3.keep K17 nin0).keep K18 nin0).keep K24 (ninS v35 nin0)
  have F44 := ((f4.keep K17).keep K18).keep K24
  have v45 := own_lo f4.lt (Nat.le_trans z23 lob2_18)
  have F46 := ((f5.keep K17 nin0).keep K18 nin0).keep K24 (ninS v45 nin0)
  refine jcY 75 (Ins.self F25) d31_37 (jta d31_40 #[SR a1, SI 0, SR b2_18, SR a12] rfl (jLa d31_41 rfl (jgR 175 (((f26.keep K17 nin0).keep K18 nin0).keep K24 (ninS (own_lo f14.lt (Nat.le_trans z23 lob2_18)) nin0)) d31_42 (jineN d31_45 (by decide) (jLa d31_48 rfl (jLa d31_49 rfl (jcP 0 99 4 101 100 5 102 (rm13_8 hw F30 f32 (((f34.keep K17 nin0).keep K18 nin0).keep K24 (ninS v35 nin0)) (((f38.keep K17 nin0).keep K18 nin0).keep K24 (ninS (own_lo f38.lt (Nat.le_trans z23 lob2_18)) nin0)) (((f41.keep K17).keep K18).keep K24) F43 F44 F46 (((f7.keep K17 nin0).keep K18 nin0).keep K24 (ninS v45 nin0)) (((f13.keep K17 nin0).keep K18 nin0).keep K24 (ninS (own_lo f8.lt (Nat.le_trans z23 lob2_18)) nin0)) F25) F30 pd10 d31_50 rfl ?_)))))))
  rintro _ h50 ⟨rfl, K50⟩
  refine jieqY 63 d31_53 (by decide) (jgo 22 d31_63 (jLa d31_22 rfl (jcF 0 209 210 211 352 353 354 355 356 332 357 (rm46_2 hw (o0_24.keep K50 nin0) (o3_24.keep K50 nin0)) (o2_24.keep K50) pd5 d31_23 rfl ?_)))
  rintro _ _ ⟨rfl, rfl⟩
  refine jieqY 66 d31_28 (by decide) (jLa d31_66 rfl (jcP 0 177 4 179 178 5 180 (rm24_1 hw (F43.keep K50 nin0) (F44.keep K50) (F46.keep K50 nin0)) (F30.keep K50) pd0 d31_67 rfl ?_))
  rintro _ _ ⟨rfl, rfl⟩
  exact jLi d31_70 rfl (jrZ d31_71 (k _ _ ⟨rfl, (((((Keep.refl h0 []).trans K17 all0).trans K18 all0).trans K24 (allS (Or.inr (Nat.le_trans z23 lob2_18)) all0)).trans K50 all0)⟩))
set_option maxRecDepth 65536 in
set_option maxHeartbeats 40000000 in
theorem rm25_10 {a1 a2 a3 a7 : Addr} {p10 : Int32} {a13 : Addr} {k15 : ClassId} {a16 a28 a32 a35 : Addr} {k38 : ClassId} (hw : HW a0 Z) (f4 : Fld Z h0 a1 cC8 "exclusive" cC10 (VR a3)) (f5 : a3 ≠ a2) (f6 : Exa Z h0 a1 cC8) (f8 : Fld Z h0 a1 cC8 "others" cC11 (VR a7)) (f9 : Exa Z h0 a7 cC21) (f11 : Fld Z h0 a7 cC22 "modCount" "I" (VI p10)) (f12 : Fld Z h0 a7 cC21 "size" "I" (VI 1)) (f14 : Fld Z h0 a7 cC21 "elementData" cC1 (VR a13)) (f17 : Arv Z h0 a13 k15 (.object "java/lang/Object") 2 [VR a16, .null] (.null)) (f18 : Exa Z h0 a16 cC18) (f19 : Fld Z h0 a16 cC18 "granted" "Z" (VI 0)) (f26 : Exa Z h0 a13 cC1) (f29 : own_Mir Z cC1 a28) (f33 : Sta Z Z.heap cC34 "EMPTY" cC9 (VR a32)) (f36 : Sta Z Z.heap cC21 "DEFAULTCAPACITY_EMPTY_ELEMENTDATA" cC1 (VR a35)) (f39 : Arv Z h0 a35 k38 (.object "java/lang/Object") 0 [] (.null)) (f41 : Exa Z h0 a3 cC15) :
    own_M l Z h0 yM49 c25 3 (some .boolean) 9 6 24 115 #[VR a1, VR a2] (fun v h => v = some (VI 0) ∧ Keep h0 h []) := by
  refine own_ent hw (plainFor_of_name pn2) #[SR a1, SR a2, SU] (fun _ => rfl) fun Q k => ?_
  refine jLa d25_0 rfl (jgF 66 f4 d25_1 (jLa d25_4 rfl (jac 18 d25_5 (own_dn f5) (jLa d25_18 rfl (jLa d25_19 rfl (jcP 0 82 4 84 83 5 85 (rm11_8 hw f8 f9 f11 f12 f14 f17 f18 f19) f6 pd6 d25_20 rfl ?_))))))
  rintro _ h20 ⟨rfl, K20⟩
  have F21 := f6.keep K20
  refine jnta d25_23 #[SR a1, SR a2, SN] rfl (jnLa d25_24 rfl (jzY 39 d25_25 (jLa d25_39 rfl (jcP 0 237 4 239 238 5 240 (rm31_6 hw (f8.keep K20 nin0) (f9.keep K20) (f12.keep K20 nin0) (f14.keep K20 nin0) (f26.keep K20) f29 (f17.keep K20 nin0) (f18.keep K20) f33 (f19.keep K20 nin0) F21 f36 (f4.keep K20 nin0) (f39.keep K20 nin0) (f41.keep K20)) F21 pd5 d25_40 rfl ?_))))
  rintro _ h43 ⟨rfl, K43⟩
  exact jrZ d25_43 (k _ _ ⟨rfl, (((Keep.refl h0 []).trans K20 all0).trans K43 all0)⟩)
set_option maxRecDepth 65536 in
set_option maxHeartbeats 40000000 in
theorem rm69_2 {a1 a2 a3 : Addr} {k5 : ClassId} (hw : HW a0 Z) (f4 : Fld Z h0 a1 cC21 "elementData" cC1 (VR a3)) (f6 : Arv Z h0 a3 k5 (.object "java/lang/Object") 2 [VR a2, .null] (.null)) (f7 : Exa Z h0 a2 cC18) :
    own_M l Z h0 yM59 c69 6 (some .int) 1 0 0 13 #[VR a1, VR a2, VI 0, VI 1] (fun v h => v = some (VI 0) ∧ h0 = h) := by
  refine own_ent hw (plainFor_of_name pn15) #[SR a1, SR a2, SI 0, SI 1, SU, SU] (fun _ => rfl) fun Q k => ?_
  refine jLa d69_0 rfl (jgF 130 f4 d69_1 (jtA d69_4 #[SR a1, SR a2, SI 0, SI 1, SR a3, SU] rfl (jLa d69_6 rfl (jyY 39 d69_7 (jLi d69_39 rfl (jtI d69_40 #[SR a1, SR a2, SI 0, SI 1, SR a3, SI 0] rfl (jLI d69_42 rfl (jLi d69_44 rfl (jcgeN d69_45 (by decide) (jLa d69_48 rfl (jLA d69_49 rfl (jLI d69_51 rfl (jaa f6 (by decide) (VR a2) rfl d69_53 (jeT 0 379 380 382 381 383 (nfT hw 253) f7 d69_54 (jieqN d69_57 (by decide) ?_)))))))))))))))
  exact jLI d69_60 rfl (jrI d69_62 (k _ _ ⟨rfl, rfl⟩))
set_option maxRecDepth 65536 in
set_option maxHeartbeats 40000000 in
theorem rm68_2 {a1 a2 a5 : Addr} {k7 : ClassId} (hw : HW a0 Z) (f3 : Fld Z h0 a1 cC21 "size" "I" (VI 1)) (f4 : Exa Z h0 a1 cC21) (f6 : Fld Z h0 a1 cC21 "elementData" cC1 (VR a5)) (f8 : Arv Z h0 a5 k7 (.object "java/lang/Object") 2 [VR a2, .null] (.null)) (f9 : Exa Z h0 a2 cC18) :
    own_M l Z h0 yM60 c68 2 (some .int) 2 0 0 30 #[VR a1, VR a2] (fun v h => v = some (VI 0) ∧ h0 = h) := by
  refine own_ent hw (plainFor_of_name pn15) #[SR a1, SR a2] (fun _ => rfl) fun Q k => ?_
  refine jLa d68_0 rfl (jLa d68_1 rfl (jkI 0 d68_2 rfl (jLa d68_3 rfl (jgF 141 f3 d68_4 (jcV 0 488 489 491 490 110 492 (nfS hw 491) (rm69_2 hw f6 f8 f9) f4 pd33 d68_7 rfl ?_)))))
  rintro _ _ ⟨rfl, rfl⟩
  exact jrI d68_10 (k _ _ ⟨rfl, rfl⟩)
set_option maxRecDepth 65536 in
set_option maxHeartbeats 40000000 in
theorem rm67_2 {a1 a2 a5 : Addr} {k7 : ClassId} (hw : HW a0 Z) (f3 : Exa Z h0 a1 cC21) (f4 : Fld Z h0 a1 cC21 "size" "I" (VI 1)) (f6 : Fld Z h0 a1 cC21 "elementData" cC1 (VR a5)) (f8 : Arv Z h0 a5 k7 (.object "java/lang/Object") 2 [VR a2, .null] (.null)) (f9 : Exa Z h0 a2 cC18) :
    own_M l Z h0 yM61 c67 2 (some .boolean) 3 0 0 43 #[VR a1, VR a2] (fun v h => v = some (VI 1) ∧ h0 = h) := by
  refine own_ent hw (plainFor_of_name pn15) #[SR a1, SR a2] (fun _ => rfl) fun Q k => ?_
  refine jLa d67_0 rfl (jLa d67_1 rfl (jcV 0 483 484 486 485 110 487 (nfS hw 486) (rm68_2 hw f4 f3 f6 f8 f9) f3 pd34 d67_2 rfl ?_))
  rintro _ _ ⟨rfl, rfl⟩
  exact jiltN d67_5 (by decide) (jkI 1 d67_8 rfl (jgo 13 d67_9 (jrZ d67_13 (k _ _ ⟨rfl, rfl⟩))))
set_option maxRecDepth 65536 in
set_option maxHeartbeats 40000000 in
theorem rm19_6 {a1 a2 a3 a5 a8 a12 : Addr} {k14 : ClassId} {a25 : Addr} (hw : HW a0 Z) (f4 : Fld Z h0 a2 cC18 "mode" cC3 (VR a3)) (f6 : Sta Z Z.heap cC2 "EXCLUSIVE" cC3 (VR a5)) (f7 : a3 ≠ a5) (f9 : Fld Z h0 a1 cC8 "others" cC11 (VR a8)) (f10 : Exa Z h0 a8 cC21) (f11 : Fld Z h0 a8 cC21 "size" "I" (VI 1)) (f13 : Fld Z h0 a8 cC21 "elementData" cC1 (VR a12)) (f15 : Arv Z h0 a12 k14 (.object "java/lang/Object") 2 [VR a2, .null] (.null)) (f16 : Exa Z h0 a2 cC18) (f18 : Fld Z h0 a2 cC18 "granted" "Z" (VI 0)) (f19 : Z.heap.size ≤ a2) (f23 : Fld Z h0 a2 cC18 "row" cC19 (VR a1)) (f26 : Fld Z h0 a2 cC18 "transaction" cC10 (VR a25)) (f28 : Fld Z h0 a2 cC18 "first" "Z" (VI 1)) :
    own_M l Z h0 yM22 c19 3 none 4 0 0 56 #[VR a1, VR a2] (fun v h => v = none ∧ Keep h0 h [a2] ∧ Fld Z h a2 cC18 "mode" cC3 (VR a3) ∧ Exa Z h a2 cC18 ∧ Fld Z h a2 cC18 "granted" "Z" (VI 1) ∧ Fld Z h a2 cC18 "row" cC19 (VR a1) ∧ Fld Z h a2 cC18 "transaction" cC10 (VR a25) ∧ Fld Z h a2 cC18 "first" "Z" (VI 1)) := by
  refine own_ent hw (plainFor_of_name pn2) #[SR a1, SR a2, SU] (fun _ => rfl) fun Q k => ?_
  refine jLa d19_0 rfl (jgR 147 f4 d19_1 (jgS 148 f6 d19_4 (jac 59 d19_7 (own_dn f7) (jLa d19_59 rfl (jgF 68 f9 d19_60 (jzN d19_63 (jLa d19_66 rfl (jgF 68 f9 d19_67 (jLa d19_70 rfl (jcF 0 475 476 477 478 479 480 481 139 110 482 (rm67_2 hw f10 f11 f13 f15 f16) f10 pd14 d19_71 rfl ?_))))))))))
  rintro _ _ ⟨rfl, rfl⟩
  refine jineY 90 d19_76 (by decide) (jLa d19_90 rfl (jkI 1 d19_91 rfl (jpRZ 175 176 76 f18 f16 f19 d19_92 fun h20 W20 F20 => ?_)))
  exact jrV d19_95 (k _ _ ⟨rfl, ((Keep.refl h0 [a2]).wr W20 (mI 0)), (fS f4 W20 (lB hw 95) (lA hw 176)), (f16.wr W20), F20, (fS f23 W20 (lB hw 91) (lA hw 176)), (fS f26 W20 (lB hw 93) (lA hw 176)), (fS f28 W20 (lB hw 97) (lA hw 176))⟩)
set_option maxRecDepth 65536 in
set_option maxHeartbeats 40000000 in
theorem rm31_7 {a1 a2 a6 a9 : Addr} {k11 : ClassId} {a12 a15 a31 a45 a48 a61 : Addr} (hw : HW a0 Z) (f3 : Fld Z h0 a1 cC8 "others" cC11 (VR a2)) (f4 : Exa Z h0 a2 cC21) (f5 : Fld Z h0 a2 cC21 "size" "I" (VI 1)) (f7 : Fld Z h0 a2 cC21 "elementData" cC1 (VR a6)) (f8 : Exa Z h0 a6 cC1) (f10 : own_Mir Z cC1 a9) (f13 : Arv Z h0 a6 k11 (.object "java/lang/Object") 2 [VR a12, .null] (.null)) (f14 : Exa Z h0 a12 cC18) (f16 : Sta Z Z.heap cC34 "EMPTY" cC9 (VR a15)) (f26 : Fld Z h0 a12 cC18 "granted" "Z" (VI 0)) (f29 : Exa Z h0 a1 cC8) (f32 : Sta Z Z.heap cC21 "DEFAULTCAPACITY_EMPTY_ELEMENTDATA" cC1 (VR a31)) (f33 : Fld Z h0 a1 cC8 "exclusive" cC10 (.null)) (f46 : Fld Z h0 a12 cC18 "mode" cC3 (VR a45)) (f49 : Sta Z Z.heap cC2 "EXCLUSIVE" cC3 (VR a48)) (f50 : a45 ≠ a48) (f58 : Z.heap.size ≤ a12) (f59 : Fld Z h0 a12 cC18 "row" cC19 (VR a1)) (f62 : Fld Z h0 a12 cC18 "transaction" cC10 (VR a61)) (f64 : Fld Z h0 a12 cC18 "first" "Z" (VI 1)) (f72 : a1 ≠ a12) (f75 : a2 ≠ a12) :
    own_M l Z h0 yM48 c31 4 (some .boolean) 8 4 10 100 #[VR a1] (fun v h => v = some (VI 1) ∧ Keep h0 h [a12] ∧ Exa Z h a12 cC18 ∧ Fld Z h a12 cC18 "mode" cC3 (VR a45) ∧ Fld Z h a12 cC18 "granted" "Z" (VI 1) ∧ Fld Z h a12 cC18 "row" cC19 (VR a1) ∧ Fld Z h a12 cC18 "transaction" cC10 (VR a61) ∧ Fld Z h a12 cC18 "first" "Z" (VI 1)) := by
  refine own_ent hw (plainFor_of_name pn2) #[SR a1, SU, SU, SU] (fun _ => rfl) fun Q k => ?_
  refine own_z fun Z0 => ?_
  refine jkI 0 d31_0 rfl (jti d31_1 #[SR a1, SI 0, SU, SU] rfl (jLa d31_2 rfl (jgF 68 f3 d31_3 (jzN d31_6 (jLa d31_9 rfl (jgF 68 f3 d31_10 (jcS 0 241 242 243 244 (rm32_1 hw f4 f5 f7 f8 f10 f13 f14 f16) pd26 d31_13 rfl ?_)))))))
  rintro _ h17 ⟨b5_17_15_17, rfl, K17, lob5_17_15_17, o0_17, o1_17, o2_17⟩
  refine jcF 0 186 187 188 324 325 326 327 328 305 329 (rm43_1 hw o0_17 o2_17 f16) o0_17 pd18 d31_16 rfl ?_
  rintro _ h18 ⟨b2_18, rfl, K18, lob2_18, o0_18, o1_18, o2_18, o3_18, o4_18⟩
  refine jta d31_21 #[SR a1, SI 0, SR b2_18, SU] rfl (jLa d31_22 rfl (jcF 0 209 210 211 352 353 354 355 356 332 357 (rm46_1 hw o3_18 o2_18) o0_18 pd5 d31_23 rfl ?_))
  rintro _ _ ⟨rfl, rfl⟩
  have z23 := K17.1
  refine jieqN d31_28 (by decide) (jLa d31_31 rfl (jcG 0 221 222 223 358 359 360 361 356 332 362 (rm47_1 hw o3_18 o1_18 (o0_17.keep K18) (o1_17.keep K18 nin0) o0_18 (Nat.le_trans Z0 (Nat.le_trans z23 lob2_18)) o2_18 o4_18) o0_18 pd19 d31_32 rfl ?_))
  rintro _ h24 ⟨rfl, K24, o0_24, o1_24, o2_24, o3_24, o4_24⟩
  have F25 := ((f14.keep K17).keep K18).keep K24
  have v27 := own_lo f14.lt (Nat.le_trans z23 lob2_18)
  have F28 := ((f26.keep K17 nin0).keep K18 nin0).keep K24 (ninS v27 nin0)
  have F30 := ((f29.keep K17).keep K18).keep K24
  have v34 := own_lo f3.lt (Nat.le_trans z23 lob2_18)
  have F36 := ((f3.keep K17 nin0).keep K18 nin0).keep K24 (ninS v34 nin0)
  have F37 := ((f4.keep K17).keep K18).keep K24
  have v38 := own_lo f4.lt (Nat.le_trans z23 lob2_18)
  have F39 := ((f5.keep K17 nin0).keep K18 nin0).keep K24 (ninS v38 nin0)
  have F40 := ((f7.keep K17 nin0).keep K18 nin0).keep K24 (ninS v38 nin0)
  have F42 := ((f13.keep K17 nin0).keep K18 nin0).keep K24 (ninS (own_lo f8.lt (Nat.le_trans z23 lob2_18)) nin0)
  refine jcY 75 (Ins.self F25) d31_37 (jta d31_40 #[SR a1, SI 0, SR b2_18, SR a12] rfl (jLa d31_41 rfl (jgR 175 F28 d31_42 (jineN d31_45 (by decide) (jLa d31_48 rfl (jLa d31_49 rfl (jcP 0 99 4 101 100 5 102 (rm13_5 hw F30 f32 (((f33.keep K17 nin0).keep K18 nin0).keep K24 (ninS v34 nin0)) F36 F37 F39 F40 F42 F25) F30 pd10 d31_50 rfl ?_)))))))
  rintro _ h43 ⟨rfl, K43⟩
  have F44 := F30.keep K43
  have F51 := F36.keep K43 nin0
  have F52 := F37.keep K43
  have F53 := F39.keep K43 nin0
  refine jieqN d31_53 (by decide) (jLa d31_56 rfl (jLa d31_57 rfl (jcP 0 143 4 145 144 5 146 (rm19_6 hw ((((f46.keep K17 nin0).keep K18 nin0).keep K24 (ninS v27 nin0)).keep K43 nin0) f49 f50 F51 F52 F53 (F40.keep K43 nin0) (F42.keep K43 nin0) (F25.keep K43) (F28.keep K43 nin0) f58 ((((f59.keep K17 nin0).keep K18 nin0).keep K24 (ninS v27 nin0)).keep K43 nin0) ((((f62.keep K17 nin0).keep K18 nin0).keep K24 (ninS v27 nin0)).keep K43 nin0) ((((f64.keep K17 nin0).keep K18 nin0).keep K24 (ninS v27 nin0)).keep K43 nin0)) F44 pd15 d31_58 rfl ?_)))
  rintro _ h66 ⟨rfl, K66, o0_66, o1_66, o2_66, o3_66, o4_66, o5_66⟩
  refine jkI 1 d31_61 rfl (jti d31_62 #[SR a1, SI 1, SR b2_18, SR a12] rfl (jgo 22 d31_63 (jLa d31_22 rfl (jcF 0 209 210 211 352 353 354 355 356 332 357 (rm46_2 hw ((o0_24.keep K43 nin0).keep K66 (ninS v27.symm nin0)) ((o3_24.keep K43 nin0).keep K66 (ninS v27.symm nin0))) ((o2_24.keep K43).keep K66) pd5 d31_23 rfl ?_))))
  rintro _ _ ⟨rfl, rfl⟩
  refine jieqY 66 d31_28 (by decide) (jLa d31_66 rfl (jcP 0 177 4 179 178 5 180 (rm24_1 hw (F51.keep K66 (ninS f72 nin0)) (F52.keep K66) (F53.keep K66 (ninS f75 nin0))) (F44.keep K66) pd0 d31_67 rfl ?_))
  rintro _ _ ⟨rfl, rfl⟩
  exact jLi d31_70 rfl (jrZ d31_71 (k _ _ ⟨rfl, ((((((Keep.refl h0 [a12]).trans K17 all0).trans K18 all0).trans K24 (allS (Or.inr (Nat.le_trans z23 lob2_18)) all0)).trans K43 all0).trans K66 (allS (mI 0) all0)), o1_66, o0_66, o2_66, o3_66, o4_66, o5_66⟩))
set_option maxRecDepth 65536 in
set_option maxHeartbeats 40000000 in
theorem rm25_11 {a1 a2 a12 : Addr} {p17 : Int32} {a23 : Addr} {k26 : ClassId} {a27 a44 a48 a51 a54 a57 a63 a74 : Addr} (hw : HW a0 Z) (f3 : Fld Z h0 a1 cC8 "exclusive" cC10 (VR a2)) (f4 : Exa Z h0 a1 cC8) (f5 : Z.heap.size ≤ a1) (f8 : Fld Z h0 a1 cC8 "version" cC1 (.null)) (f13 : Fld Z h0 a1 cC8 "others" cC11 (VR a12)) (f15 : Exa Z h0 a12 cC21) (f18 : Fld Z h0 a12 cC22 "modCount" "I" (VI p17)) (f19 : a12 ≠ a1) (f21 : Fld Z h0 a12 cC21 "size" "I" (VI 1)) (f24 : Fld Z h0 a12 cC21 "elementData" cC1 (VR a23)) (f28 : Arv Z h0 a23 k26 (.object "java/lang/Object") 2 [VR a27, .null] (.null)) (f29 : a23 ≠ a1) (f31 : Exa Z h0 a27 cC18) (f33 : Fld Z h0 a27 cC18 "granted" "Z" (VI 0)) (f34 : a27 ≠ a1) (f42 : Exa Z h0 a23 cC1) (f45 : own_Mir Z cC1 a44) (f49 : Sta Z Z.heap cC34 "EMPTY" cC9 (VR a48)) (f52 : Sta Z Z.heap cC21 "DEFAULTCAPACITY_EMPTY_ELEMENTDATA" cC1 (VR a51)) (f55 : Fld Z h0 a27 cC18 "mode" cC3 (VR a54)) (f58 : Sta Z Z.heap cC2 "EXCLUSIVE" cC3 (VR a57)) (f59 : a54 ≠ a57) (f60 : Z.heap.size ≤ a27) (f61 : Fld Z h0 a27 cC18 "row" cC19 (VR a1)) (f64 : Fld Z h0 a27 cC18 "transaction" cC10 (VR a63)) (f66 : Fld Z h0 a27 cC18 "first" "Z" (VI 1)) (f68 : a12 ≠ a27) (f75 : Fld Z h0 a1 cC8 "key" cC9 (VR a74)) :
    own_M l Z h0 yM49 c25 3 (some .boolean) 9 5 14 115 #[VR a1, VR a2] (fun v h => v = some (VI 1) ∧ Keep h0 h [a1, a27] ∧ Fld Z h a1 cC8 "exclusive" cC10 (.null) ∧ Exa Z h a1 cC8 ∧ Fld Z h a1 cC8 "version" cC1 (.null) ∧ Fld Z h a1 cC8 "others" cC11 (VR a12) ∧ Fld Z h a1 cC8 "key" cC9 (VR a74) ∧ Exa Z h a27 cC18 ∧ Fld Z h a27 cC18 "mode" cC3 (VR a54) ∧ Fld Z h a27 cC18 "granted" "Z" (VI 1) ∧ Fld Z h a27 cC18 "row" cC19 (VR a1) ∧ Fld Z h a27 cC18 "transaction" cC10 (VR a63) ∧ Fld Z h a27 cC18 "first" "Z" (VI 1)) := by
  refine own_ent hw (plainFor_of_name pn2) #[SR a1, SR a2, SU] (fun _ => rfl) fun Q k => ?_
  refine jLa d25_0 rfl (jgF 66 f3 d25_1 (jLa d25_4 rfl (jac 8 d25_5 (decide_eq_true rfl) (jLa d25_8 rfl (jkN d25_9 (jpFN 66 67 4 f3 f4 f5 d25_10 fun h6 W6 F6 => ?_))))))
  have F7 := f4.wr W6
  refine jLa d25_13 rfl (jkN d25_14 (jpFN 418 419 4 (fS f8 W6 (lA hw 419) (lA hw 67)) F7 f5 d25_15 fun h10 W10 F10 => ?_))
  have F11 := F7.wr W10
  have F14 := fS (fS f13 W6 (lA hw 69) (lA hw 67)) W10 (lA hw 69) (lA hw 419)
  have F16 := (f15.wr W6).wr W10
  have F22 := fW (fW f21 W6 f19) W10 f19
  have F25 := fW (fW f24 W6 f19) W10 f19
  have F30 := (f28.other W6 f29).other W10 f29
  have F32 := (f31.wr W6).wr W10
  have F35 := fW (fW f33 W6 f34) W10 f34
  refine jLa d25_18 rfl (jLa d25_19 rfl (jcP 0 82 4 84 83 5 85 (rm11_8 hw F14 F16 (fW (fW f18 W6 f19) W10 f19) F22 F25 F30 F32 F35) F11 pd6 d25_20 rfl ?_))
  rintro _ h36 ⟨rfl, K36⟩
  have F37 := F11.keep K36
  have F38 := F14.keep K36 nin0
  have F53 := (fS F6 W10 (lA hw 67) (lA hw 419)).keep K36 nin0
  refine jnta d25_23 #[SR a1, SR a2, SN] rfl (jnLa d25_24 rfl (jzY 39 d25_25 (jLa d25_39 rfl (jcP 0 237 4 239 238 5 240 (rm31_7 hw F38 (F16.keep K36) (F22.keep K36 nin0) (F25.keep K36 nin0) (((f42.wr W6).wr W10).keep K36) f45 (F30.keep K36 nin0) (F32.keep K36) f49 (F35.keep K36 nin0) F37 f52 F53 ((fW (fW f55 W6 f34) W10 f34).keep K36 nin0) f58 f59 f60 ((fW (fW f61 W6 f34) W10 f34).keep K36 nin0) ((fW (fW f64 W6 f34) W10 f34).keep K36 nin0) ((fW (fW f66 W6 f34) W10 f34).keep K36 nin0) f34.symm f68) F37 pd5 d25_40 rfl ?_))))
  rintro _ h69 ⟨rfl, K69, o0_69, o1_69, o2_69, o3_69, o4_69, o5_69⟩
  exact jrZ d25_43 (k _ _ ⟨rfl, (((((Keep.refl h0 [a1, a27]).wr W6 (mI 0)).wr W10 (mI 0)).trans K36 all0).trans K69 (allS (mI 1) all0)), (F53.keep K69 (ninS f34.symm nin0)), (F37.keep K69), ((F10.keep K36 nin0).keep K69 (ninS f34.symm nin0)), (F38.keep K69 (ninS f34.symm nin0)), (((fS (fS f75 W6 (lB hw 21) (lA hw 67)) W10 (lB hw 21) (lA hw 419)).keep K36 nin0).keep K69 (ninS f34.symm nin0)), o0_69, o1_69, o2_69, o3_69, o4_69, o5_69⟩)
set_option maxRecDepth 65536 in
set_option maxHeartbeats 40000000 in
theorem tl75 {D0_ D1_ D2_ D3_ D4_ D5_ D6_ D7_ D8_ : Slot} {A10_ A11_ A12_ : Addr} {D14_ D15_ D16_ D17_ : Slot} {A17_ : Addr} {P18_ : Int32} {A19_ : Addr} {KK20_ : ClassId} {A21_ A22_ A23_ A24_ A25_ A26_ A27_ A28_ A29_ : Addr} {KK30_ : ClassId} (hw : HW a0 Z) (fm1_ : Exa Z h0 A10_ cC8) (fm2_ : Fld Z h0 A10_ cC8 "exclusive" cC10 (VR A11_)) (fm3_ : Fld Z h0 A10_ cC8 "version" cC1 (.null)) (fm4_ : Fld Z h0 A10_ cC8 "others" cC11 (VR A17_)) (fm5_ : Z.heap.size ≤ A10_) (fm6_ : Exa Z h0 A17_ cC21) (fm7_ : Fld Z h0 A17_ cC22 "modCount" "I" (VI P18_)) (fm8_ : A17_ ≠ A10_) (fm9_ : Fld Z h0 A17_ cC21 "size" "I" (VI 1)) (fm10_ : Fld Z h0 A17_ cC21 "elementData" cC1 (VR A19_)) (fm11_ : Arv Z h0 A19_ KK20_ (.object "java/lang/Object") 2 [VR A21_, .null] (.null)) (fm12_ : A19_ ≠ A10_) (fm13_ : Exa Z h0 A21_ cC18) (fm14_ : Fld Z h0 A21_ cC18 "granted" "Z" (VI 0)) (fm15_ : A21_ ≠ A10_) (fm16_ : Exa Z h0 A19_ cC1) (fm17_ : own_Mir Z cC1 A22_) (fm18_ : Sta Z Z.heap cC34 "EMPTY" cC9 (VR A23_)) (fm19_ : Sta Z Z.heap cC21 "DEFAULTCAPACITY_EMPTY_ELEMENTDATA" cC1 (VR A24_)) (fm20_ : Fld Z h0 A21_ cC18 "mode" cC3 (VR A25_)) (fm21_ : Sta Z Z.heap cC2 "EXCLUSIVE" cC3 (VR A26_)) (fm22_ : A25_ ≠ A26_) (fm23_ : Z.heap.size ≤ A21_) (fm24_ : Fld Z h0 A21_ cC18 "row" cC19 (VR A10_)) (fm25_ : Fld Z h0 A21_ cC18 "transaction" cC10 (VR A12_)) (fm26_ : Fld Z h0 A21_ cC18 "first" "Z" (VI 1)) (fm27_ : A17_ ≠ A21_) (fm28_ : Fld Z h0 A10_ cC8 "key" cC9 (VR A27_)) (fm29_ : A19_ ≠ A21_) (fm30_ : Sta Z Z.heap cC2 "SHARED" cC3 (VR A25_)) (fm31_ : A19_ ≠ A17_) (fm32_ : Sta Z Z.heap cC34 "EMPTY_LIST" cC36 (VR A28_)) (fm33_ : Exa Z h0 A28_ cC0) (fm34_ : Fld Z h0 A28_ cC0 "elements" cC1 (VR A29_)) (fm35_ : A28_ ≠ A21_) (fm36_ : A28_ ≠ A10_) (fm37_ : A28_ ≠ A19_) (fm38_ : A28_ ≠ A17_) (fm39_ : Arv Z h0 A29_ KK30_ (.object "java/lang/Object") 0 [] (.null)) (fm40_ : A29_ ≠ A21_) (fm41_ : A29_ ≠ A10_) (fm42_ : A29_ ≠ A19_) (fm43_ : A29_ ≠ A17_) (fm44_ : Z.heap.size ≤ A17_) (fm45_ : Z.heap.size ≤ A19_) :
    own_T l Z a0 A h0 21 102 303 #[D0_, D1_, D2_, D3_, D4_, D5_, D6_, D7_, D8_, SR A10_, SR A11_, SR A12_, SI 1, SI 0, D14_, D15_, D16_, D17_, SI 0, SI 0, SU] := by
  refine jLA at_303 rfl (jLA at_305 rfl (jcV 0 181 182 184 183 5 185 (nfS hw 184) (rm25_11 hw fm2_ fm1_ fm5_ fm3_ fm4_ fm6_ fm7_ fm8_ fm9_ fm10_ fm11_ fm12_ fm13_ fm14_ fm15_ fm16_ fm17_ fm18_ fm19_ fm20_ fm21_ fm22_ fm23_ fm24_ fm25_ fm26_ fm27_ fm28_) fm1_ pd7 at_307 rfl ?_))
  rintro _ h1 ⟨rfl, K1, o0_1, o1_1, o2_1, o3_1, o4_1, o5_1, o6_1, o7_1, o8_1, o9_1, o10_1⟩
  refine jpO at_310 rfl (jLA at_311 rfl (jLA at_313 rfl (jcV 0 181 182 184 183 5 185 (nfS hw 184) (rm25_2 hw o0_1 o1_1 o3_1 (fm6_.keep K1) (fm7_.keep K1 (ninS fm8_ (ninS fm27_ nin0))) (fm9_.keep K1 (ninS fm8_ (ninS fm27_ nin0))) (fm10_.keep K1 (ninS fm8_ (ninS fm27_ nin0))) (fm11_.keep K1 (ninS fm12_ (ninS fm29_ nin0))) o5_1 o7_1 o9_1 o6_1 fm30_ fm44_ fm31_ fm45_ (fm16_.keep K1) fm12_.symm fm8_.symm fm32_ (fm33_.keep K1) (fm34_.keep K1 (ninS fm36_ (ninS fm35_ nin0))) fm37_ fm38_ (fm39_.keep K1 (ninS fm41_ (ninS fm40_ nin0))) fm42_ fm43_ fm5_ o4_1 o2_1) o1_1 pd7 at_315 rfl ?_)))
  rintro _ h11 ⟨rfl, K11, o0_11, o1_11, o2_11, o3_11, o4_11, o5_11, o6_11, o7_11, o8_11, o9_11, o10_11⟩
  exact jpO at_318 rfl (own_mono (tl16 hw o6_11 o8_11 o7_11))
set_option maxRecDepth 65536 in
set_option maxHeartbeats 40000000 in
theorem tl74 {D0_ D1_ D2_ D3_ D4_ D5_ D6_ : Slot} {G7_ : Int32} {D8_ : Slot} {A10_ A11_ A12_ : Addr} {D14_ D16_ : Slot} {A15_ : Addr} {P16_ : Int32} {A17_ : Addr} {KK18_ : ClassId} {A19_ A20_ A21_ A22_ A23_ A24_ A25_ A26_ A27_ : Addr} {KK28_ : ClassId} (hw : HW a0 Z) (fm1_ : Exa Z h0 A10_ cC8) (fm2_ : Fld Z h0 A10_ cC8 "exclusive" cC10 (VR A11_)) (fm3_ : G7_ = (0 : Int32)) (fm4_ : Fld Z h0 A10_ cC8 "version" cC1 (.null)) (fm5_ : Fld Z h0 A10_ cC8 "others" cC11 (VR A15_)) (fm6_ : Z.heap.size ≤ A10_) (fm7_ : Exa Z h0 A15_ cC21) (fm8_ : Fld Z h0 A15_ cC22 "modCount" "I" (VI P16_)) (fm9_ : A15_ ≠ A10_) (fm10_ : Fld Z h0 A15_ cC21 "size" "I" (VI 1)) (fm11_ : Fld Z h0 A15_ cC21 "elementData" cC1 (VR A17_)) (fm12_ : Arv Z h0 A17_ KK18_ (.object "java/lang/Object") 2 [VR A19_, .null] (.null)) (fm13_ : A17_ ≠ A10_) (fm14_ : Exa Z h0 A19_ cC18) (fm15_ : Fld Z h0 A19_ cC18 "granted" "Z" (VI 0)) (fm16_ : A19_ ≠ A10_) (fm17_ : Exa Z h0 A17_ cC1) (fm18_ : own_Mir Z cC1 A20_) (fm19_ : Sta Z Z.heap cC34 "EMPTY" cC9 (VR A21_)) (fm20_ : Sta Z Z.heap cC21 "DEFAULTCAPACITY_EMPTY_ELEMENTDATA" cC1 (VR A22_)) (fm21_ : Fld Z h0 A19_ cC18 "mode" cC3 (VR A23_)) (fm22_ : Sta Z Z.heap cC2 "EXCLUSIVE" cC3 (VR A24_)) (fm23_ : A23_ ≠ A24_) (fm24_ : Z.heap.size ≤ A19_) (fm25_ : Fld Z h0 A19_ cC18 "row" cC19 (VR A10_)) (fm26_ : Fld Z h0 A19_ cC18 "transaction" cC10 (VR A12_)) (fm27_ : Fld Z h0 A19_ cC18 "first" "Z" (VI 1)) (fm28_ : A15_ ≠ A19_) (fm29_ : Fld Z h0 A10_ cC8 "key" cC9 (VR A25_)) (fm30_ : A17_ ≠ A19_) (fm31_ : Sta Z Z.heap cC2 "SHARED" cC3 (VR A23_)) (fm32_ : A17_ ≠ A15_) (fm33_ : Sta Z Z.heap cC34 "EMPTY_LIST" cC36 (VR A26_)) (fm34_ : Exa Z h0 A26_ cC0) (fm35_ : Fld Z h0 A26_ cC0 "elements" cC1 (VR A27_)) (fm36_ : A26_ ≠ A19_) (fm37_ : A26_ ≠ A10_) (fm38_ : A26_ ≠ A17_) (fm39_ : A26_ ≠ A15_) (fm40_ : Arv Z h0 A27_ KK28_ (.object "java/lang/Object") 0 [] (.null)) (fm41_ : A27_ ≠ A19_) (fm42_ : A27_ ≠ A10_) (fm43_ : A27_ ≠ A17_) (fm44_ : A27_ ≠ A15_) (fm45_ : Z.heap.size ≤ A15_) (fm46_ : Z.heap.size ≤ A17_) :
    own_T l Z a0 A h0 21 102 274 #[D0_, D1_, D2_, D3_, D4_, D5_, D6_, SI G7_, D8_, SR A10_, SR A11_, SR A12_, SI 1, SI 0, D14_, SI 1, D16_, SI 0, SU, SU, SU] := by
  refine jLA at_274 rfl (jcV 0 61 62 64 63 5 65 (nfS hw 64) (rm8_3 hw fm2_) fm1_ pd5 at_276 rfl ?_)
  rintro _ _ ⟨rfl, rfl⟩
  exact jtI at_279 #[D0_, D1_, D2_, D3_, D4_, D5_, D6_, SI G7_, D8_, SR A10_, SR A11_, SR A12_, SI 1, SI 0, D14_, SI 1, D16_, SI 0, SI 0, SU, SU] rfl (jLI at_281 rfl (jineN at_283 (by decide) (jLI at_286 rfl (jieqY 300 at_288 fm3_ (jkI 0 at_300 rfl (jtI at_301 #[D0_, D1_, D2_, D3_, D4_, D5_, D6_, SI G7_, D8_, SR A10_, SR A11_, SR A12_, SI 1, SI 0, D14_, SI 1, D16_, SI 0, SI 0, SI 0, SU] rfl (own_mono (tl75 hw fm1_ fm2_ fm4_ fm5_ fm6_ fm7_ fm8_ fm9_ fm10_ fm11_ fm12_ fm13_ fm14_ fm15_ fm16_ fm17_ fm18_ fm19_ fm20_ fm21_ fm22_ fm23_ fm24_ fm25_ fm26_ fm27_ fm28_ fm29_ fm30_ fm31_ fm32_ fm33_ fm34_ fm35_ fm36_ fm37_ fm38_ fm39_ fm40_ fm41_ fm42_ fm43_ fm44_ fm45_ fm46_))))))))
set_option maxRecDepth 65536 in
set_option maxHeartbeats 40000000 in
theorem tl73 {D0_ D1_ D2_ D3_ D4_ D5_ D6_ : Slot} {G7_ : Int32} {D8_ : Slot} {A10_ A11_ A12_ A13_ : Addr} {D16_ : Slot} {A15_ : Addr} {P16_ : Int32} {A17_ : Addr} {KK18_ : ClassId} {A19_ A20_ A21_ : Addr} {KK22_ : ClassId} {A23_ A24_ A25_ A26_ A27_ : Addr} {KK28_ : ClassId} (hw : HW a0 Z) (fm1_ : Exa Z h0 A10_ cC8) (fm2_ : Fld Z h0 A10_ cC8 "exclusive" cC10 (VR A11_)) (fm3_ : A11_ ≠ A12_) (fm4_ : Fld Z h0 A10_ cC8 "others" cC11 (VR A15_)) (fm5_ : Exa Z h0 A15_ cC21) (fm6_ : Fld Z h0 A15_ cC22 "modCount" "I" (VI P16_)) (fm7_ : Fld Z h0 A15_ cC21 "size" "I" (VI 1)) (fm8_ : Fld Z h0 A15_ cC21 "elementData" cC1 (VR A17_)) (fm9_ : Arv Z h0 A17_ KK18_ (.object "java/lang/Object") 2 [VR A13_, .null] (.null)) (fm10_ : Exa Z h0 A13_ cC18) (fm11_ : Fld Z h0 A13_ cC18 "granted" "Z" (VI 0)) (fm12_ : Exa Z h0 A17_ cC1) (fm13_ : own_Mir Z cC1 A19_) (fm14_ : Sta Z Z.heap cC34 "EMPTY" cC9 (VR A20_)) (fm15_ : Sta Z Z.heap cC21 "DEFAULTCAPACITY_EMPTY_ELEMENTDATA" cC1 (VR A21_)) (fm16_ : Arv Z h0 A21_ KK22_ (.object "java/lang/Object") 0 [] (.null)) (fm17_ : Exa Z h0 A11_ cC15) (fm18_ : Fld Z h0 A10_ cC8 "version" cC1 (.null)) (fm19_ : Z.heap.size ≤ A10_) (fm20_ : A15_ ≠ A10_) (fm21_ : A17_ ≠ A10_) (fm22_ : A13_ ≠ A10_) (fm23_ : Fld Z h0 A13_ cC18 "mode" cC3 (VR A23_)) (fm24_ : Sta Z Z.heap cC2 "EXCLUSIVE" cC3 (VR A24_)) (fm25_ : A23_ ≠ A24_) (fm26_ : Z.heap.size ≤ A13_) (fm27_ : Fld Z h0 A13_ cC18 "row" cC19 (VR A10_)) (fm28_ : Fld Z h0 A13_ cC18 "transaction" cC10 (VR A12_)) (fm29_ : Fld Z h0 A13_ cC18 "first" "Z" (VI 1)) (fm30_ : A15_ ≠ A13_) (fm31_ : Fld Z h0 A10_ cC8 "key" cC9 (VR A25_)) (fm32_ : A17_ ≠ A13_) (fm33_ : Sta Z Z.heap cC2 "SHARED" cC3 (VR A23_)) (fm34_ : A17_ ≠ A15_) (fm35_ : Sta Z Z.heap cC34 "EMPTY_LIST" cC36 (VR A26_)) (fm36_ : Exa Z h0 A26_ cC0) (fm37_ : Fld Z h0 A26_ cC0 "elements" cC1 (VR A27_)) (fm38_ : A26_ ≠ A13_) (fm39_ : A26_ ≠ A10_) (fm40_ : A26_ ≠ A17_) (fm41_ : A26_ ≠ A15_) (fm42_ : Arv Z h0 A27_ KK28_ (.object "java/lang/Object") 0 [] (.null)) (fm43_ : A27_ ≠ A13_) (fm44_ : A27_ ≠ A10_) (fm45_ : A27_ ≠ A17_) (fm46_ : A27_ ≠ A15_) (fm47_ : Z.heap.size ≤ A15_) (fm48_ : Z.heap.size ≤ A17_) (fm49_ : A12_ ≠ A11_) :
    own_T l Z a0 A h0 15 77 234 #[D0_, D1_, D2_, D3_, D4_, D5_, D6_, SI G7_, D8_, SR A10_, SR A11_, SR A12_, SI 1, SI 0, SR A13_, SI 1, D16_, SI 0, SU, SU, SU] := by
  by_cases hm0 : G7_ = (0 : Int32)
  ·
    refine jLI at_234 rfl (jieqY 250 at_236 (by decide) (jLI at_250 rfl (jieqY 266 at_252 hm0 (jLA at_266 rfl (jLA at_268 rfl (jcV 0 181 182 184 183 5 185 (nfS hw 184) (rm25_10 hw fm2_ fm3_ fm1_ fm4_ fm5_ fm6_ fm7_ fm8_ fm9_ fm10_ fm11_ fm12_ fm13_ fm14_ fm15_ fm16_ fm17_) fm1_ pd7 at_270 rfl ?_))))))
    rintro _ h1 ⟨rfl, K1⟩
    exact jpO at_273 rfl (own_mono (tl74 hw (fm1_.keep K1) (fm2_.keep K1 nin0) hm0 (fm18_.keep K1 nin0) (fm4_.keep K1 nin0) fm19_ (fm5_.keep K1) (fm6_.keep K1 nin0) fm20_ (fm7_.keep K1 nin0) (fm8_.keep K1 nin0) (fm9_.keep K1 nin0) fm21_ (fm10_.keep K1) (fm11_.keep K1 nin0) fm22_ (fm12_.keep K1) fm13_ fm14_ fm15_ (fm23_.keep K1 nin0) fm24_ fm25_ fm26_ (fm27_.keep K1 nin0) (fm28_.keep K1 nin0) (fm29_.keep K1 nin0) fm30_ (fm31_.keep K1 nin0) fm32_ fm33_ fm34_ fm35_ (fm36_.keep K1) (fm37_.keep K1 nin0) fm38_ fm39_ fm40_ fm41_ (fm42_.keep K1 nin0) fm43_ fm44_ fm45_ fm46_ fm47_ fm48_))
  ·
    refine jLI at_234 rfl (jieqY 250 at_236 (by decide) (jLI at_250 rfl (jieqN at_252 hm0 (jLA at_255 rfl (jLA at_257 rfl (jcV 0 181 182 184 183 5 185 (nfS hw 184) (rm25_11 hw fm2_ fm1_ fm19_ fm18_ fm4_ fm5_ fm6_ fm20_ fm7_ fm8_ fm9_ fm21_ fm10_ fm11_ fm22_ fm12_ fm13_ fm14_ fm15_ fm23_ fm24_ fm25_ fm26_ fm27_ fm28_ fm29_ fm30_ fm31_) fm1_ pd7 at_259 rfl ?_))))))
    rintro _ h1 ⟨rfl, K1, o0_1, o1_1, o2_1, o3_1, o4_1, o5_1, o6_1, o7_1, o8_1, o9_1, o10_1⟩
    exact jpO at_262 rfl (jgo 274 at_263 (own_mono (tl27 hw o1_1 o0_1 o3_1 hm0 (fm5_.keep K1) (fm6_.keep K1 (ninS fm20_ (ninS fm30_ nin0))) (fm7_.keep K1 (ninS fm20_ (ninS fm30_ nin0))) (fm8_.keep K1 (ninS fm20_ (ninS fm30_ nin0))) (fm9_.keep K1 (ninS fm21_ (ninS fm32_ nin0))) o5_1 o7_1 o9_1 fm49_ (fm12_.keep K1) fm13_ fm14_ o6_1 fm33_ fm34_ fm21_.symm fm20_.symm fm35_ (fm36_.keep K1) (fm37_.keep K1 (ninS fm39_ (ninS fm38_ nin0))) fm40_ fm41_ (fm42_.keep K1 (ninS fm44_ (ninS fm43_ nin0))) fm45_ fm46_ o4_1 o2_1 fm47_ fm48_ fm19_)))
set_option maxRecDepth 65536 in
set_option maxHeartbeats 40000000 in
theorem rm31_8 {a1 a2 a6 a10 : Addr} {k12 : ClassId} {a21 a24 : Addr} (hw : HW a0 Z) (f3 : Fld Z h0 a1 cC8 "others" cC11 (VR a2)) (f4 : Exa Z h0 a2 cC21) (f5 : Fld Z h0 a2 cC21 "size" "I" (VI 0)) (f7 : Sta Z Z.heap cC34 "EMPTY_LIST" cC36 (VR a6)) (f9 : Exa Z h0 a6 cC0) (f11 : Fld Z h0 a6 cC0 "elements" cC1 (VR a10)) (f13 : Arv Z h0 a10 k12 (.object "java/lang/Object") 0 [] (.null)) (f16 : Exa Z h0 a1 cC8) (f22 : Fld Z h0 a1 cC8 "exclusive" cC10 (VR a21)) (f25 : Fld Z h0 a1 cC8 "key" cC9 (VR a24)) (f27 : Fld Z h0 a1 cC8 "version" cC1 (.null)) (f29 : Z.heap.size ≤ a1) :
    own_M l Z h0 yM48 c31 4 (some .boolean) 3 1 4 39 #[VR a1] (fun v h => v = some (VI 0) ∧ Keep h0 h [a1] ∧ Exa Z h a1 cC8 ∧ Fld Z h a1 cC8 "others" cC11 (.null) ∧ Fld Z h a1 cC8 "exclusive" cC10 (VR a21) ∧ Fld Z h a1 cC8 "key" cC9 (VR a24) ∧ Fld Z h a1 cC8 "version" cC1 (.null)) := by
  refine own_ent hw (plainFor_of_name pn2) #[SR a1, SU, SU, SU] (fun _ => rfl) fun Q k => ?_
  refine jkI 0 d31_0 rfl (jti d31_1 #[SR a1, SI 0, SU, SU] rfl (jLa d31_2 rfl (jgF 68 f3 d31_3 (jzN d31_6 (jLa d31_9 rfl (jgF 68 f3 d31_10 (jcS 0 241 242 243 244 (rm32_2 hw f4 f5 f7) pd26 d31_13 rfl ?_)))))))
  rintro _ _ ⟨rfl, rfl⟩
  refine jcF 0 186 187 188 393 325 326 394 395 305 329 (rm43_2 hw f9 f11 f13) f9 pd18 d31_16 rfl ?_
  rintro _ h14 ⟨b2_14, rfl, K14, lob2_14, o0_14, o1_14, o2_14, o3_14, o4_14⟩
  refine jta d31_21 #[SR a1, SI 0, SR b2_14, SU] rfl (jLa d31_22 rfl (jcF 0 209 210 211 352 353 354 355 356 332 357 (rm46_3 hw o3_14 o2_14) o0_14 pd5 d31_23 rfl ?_))
  rintro _ _ ⟨rfl, rfl⟩
  have F17 := f16.keep K14
  refine jieqY 66 d31_28 (by decide) (jLa d31_66 rfl (jcP 0 177 4 179 178 5 180 (rm24_5 hw (f3.keep K14 nin0) (f4.keep K14) (f5.keep K14 nin0) F17 f29 (f22.keep K14 nin0) (f25.keep K14 nin0) (f27.keep K14 nin0)) F17 pd0 d31_67 rfl ?_))
  rintro _ h30 ⟨rfl, K30, o0_30, o1_30, o2_30, o3_30, o4_30⟩
  exact jLi d31_70 rfl (jrZ d31_71 (k _ _ ⟨rfl, (((Keep.refl h0 [a1]).trans K14 all0).trans K30 (allS (mI 0) all0)), o1_30, o0_30, o2_30, o3_30, o4_30⟩))
set_option maxRecDepth 65536 in
set_option maxHeartbeats 40000000 in
theorem rm66_2 {a1 a2 a3 a6 : Addr} {k9 : ClassId} {p12 : Int32} {a24 a28 : Addr} {k33 : ClassId} {a38 a41 : Addr} (hw : HW a0 Z) (f4 : Fld Z h0 a1 cC8 "others" cC11 (VR a3)) (f5 : Exa Z h0 a3 cC21) (f7 : Fld Z h0 a3 cC21 "elementData" cC1 (VR a6)) (f8 : Fld Z h0 a3 cC21 "size" "I" (VI 1)) (f10 : Arv Z h0 a6 k9 (.object "java/lang/Object") 2 [VR a2, .null] (.null)) (f11 : Exa Z h0 a2 cC18) (f13 : Fld Z h0 a3 cC22 "modCount" "I" (VI p12)) (f14 : a6 ≠ a3) (f15 : Exa Z h0 a6 cC1) (f16 : Z.heap.size ≤ a3) (f17 : Z.heap.size ≤ a6) (f19 : Exa Z h0 a1 cC8) (f21 : a1 ≠ a6) (f22 : a1 ≠ a3) (f25 : Sta Z Z.heap cC34 "EMPTY_LIST" cC36 (VR a24)) (f26 : Exa Z h0 a24 cC0) (f29 : Fld Z h0 a24 cC0 "elements" cC1 (VR a28)) (f30 : a24 ≠ a6) (f31 : a24 ≠ a3) (f34 : Arv Z h0 a28 k33 (.object "java/lang/Object") 0 [] (.null)) (f35 : a28 ≠ a6) (f36 : a28 ≠ a3) (f39 : Fld Z h0 a1 cC8 "exclusive" cC10 (VR a38)) (f42 : Fld Z h0 a1 cC8 "key" cC9 (VR a41)) (f44 : Fld Z h0 a1 cC8 "version" cC1 (.null)) (f46 : Z.heap.size ≤ a1) :
    own_M l Z h0 yM66 c66 2 (some .boolean) 4 1 4 54 #[VR a1, VR a2] (fun v h => v = some (VI 0) ∧ Keep h0 h [a3, a6, a1] ∧ Exa Z h a3 cC21 ∧ Fld Z h a3 cC22 "modCount" "I" (VI (p12 + (1 : Int32))) ∧ Fld Z h a3 cC21 "size" "I" (VI 0) ∧ Fld Z h a3 cC21 "elementData" cC1 (VR a6) ∧ Exa Z h a6 cC1 ∧ Arv Z h a6 k9 (.object "java/lang/Object") 2 [.null, .null] (.null) ∧ Exa Z h a1 cC8 ∧ Fld Z h a1 cC8 "others" cC11 (.null) ∧ Fld Z h a1 cC8 "exclusive" cC10 (VR a38) ∧ Fld Z h a1 cC8 "key" cC9 (VR a41) ∧ Fld Z h a1 cC8 "version" cC1 (.null)) := by
  refine own_ent hw (plainFor_of_name pn2) #[SR a1, SR a2] (fun _ => rfl) fun Q k => ?_
  refine jLa d66_0 rfl (jgF 68 f4 d66_1 (jLa d66_4 rfl (jcF 0 371 372 373 374 375 376 377 139 110 378 (rm49_1 hw f7 f8 f10 f11 f5 f13 f16 f14 f17 f15) f5 pd14 d66_5 rfl ?_)))
  rintro _ h18 ⟨rfl, K18, o0_18, o1_18, o2_18, o3_18, o4_18, o5_18⟩
  have F20 := f19.keep K18
  refine jpO d66_10 rfl (jLa d66_11 rfl (jcP 0 237 4 239 238 5 240 (rm31_8 hw (f4.keep K18 (ninS f22 (ninS f21 nin0))) o0_18 o2_18 f25 (f26.keep K18) (f29.keep K18 (ninS f31 (ninS f30 nin0))) (f34.keep K18 (ninS f36 (ninS f35 nin0))) F20 (f39.keep K18 (ninS f22 (ninS f21 nin0))) (f42.keep K18 (ninS f22 (ninS f21 nin0))) (f44.keep K18 (ninS f22 (ninS f21 nin0))) f46) F20 pd5 d66_12 rfl ?_))
  rintro _ h47 ⟨rfl, K47, o0_47, o1_47, o2_47, o3_47, o4_47⟩
  exact jrZ d66_15 (k _ _ ⟨rfl, (((Keep.refl h0 [a3, a6, a1]).trans K18 (allS (mI 0) (allS (mI 1) all0))).trans K47 (allS (mI 2) all0)), (o0_18.keep K47), (o1_18.keep K47 (ninS f22.symm nin0)), (o2_18.keep K47 (ninS f22.symm nin0)), (o3_18.keep K47 (ninS f22.symm nin0)), (o4_18.keep K47), (o5_18.keep K47 (ninS f21.symm nin0)), o0_47, o1_47, o2_47, o3_47, o4_47⟩)
set_option maxRecDepth 65536 in
set_option maxHeartbeats 40000000 in
theorem tl77 {D0_ D1_ D2_ D3_ D4_ D5_ D6_ : Slot} {G7_ : Int32} {D8_ : Slot} {A10_ A11_ A12_ : Addr} {D14_ D16_ : Slot} {A15_ : Addr} (hw : HW a0 Z) (fm1_ : Exa Z h0 A10_ cC8) (fm2_ : Fld Z h0 A10_ cC8 "exclusive" cC10 (VR A11_)) (fm3_ : Fld Z h0 A10_ cC8 "version" cC1 (.null)) (fm4_ : Fld Z h0 A10_ cC8 "others" cC11 (.null)) (fm5_ : Fld Z h0 A10_ cC8 "key" cC9 (VR A15_)) (fm6_ : Z.heap.size ≤ A10_) :
    own_T l Z a0 A h0 21 102 274 #[D0_, D1_, D2_, D3_, D4_, D5_, D6_, SI G7_, D8_, SR A10_, SR A11_, SR A12_, SI 1, SI 0, D14_, SI 1, D16_, SI 1, SU, SU, SU] := by
  refine jLA at_274 rfl (jcV 0 61 62 64 63 5 65 (nfS hw 64) (rm8_3 hw fm2_) fm1_ pd5 at_276 rfl ?_)
  rintro _ _ ⟨rfl, rfl⟩
  exact jtI at_279 #[D0_, D1_, D2_, D3_, D4_, D5_, D6_, SI G7_, D8_, SR A10_, SR A11_, SR A12_, SI 1, SI 0, D14_, SI 1, D16_, SI 1, SI 0, SU, SU] rfl (jLI at_281 rfl (jineY 300 at_283 (by decide) (jkI 0 at_300 rfl (jtI at_301 #[D0_, D1_, D2_, D3_, D4_, D5_, D6_, SI G7_, D8_, SR A10_, SR A11_, SR A12_, SI 1, SI 0, D14_, SI 1, D16_, SI 1, SI 0, SI 0, SU] rfl (own_mono (tl56 hw fm1_ fm2_ fm3_ fm4_ fm5_ fm6_))))))
set_option maxRecDepth 65536 in
set_option maxHeartbeats 40000000 in
theorem tl76 {D0_ D1_ D2_ D3_ D4_ D5_ D6_ : Slot} {G7_ : Int32} {D8_ : Slot} {A10_ A11_ A12_ A13_ : Addr} {D16_ : Slot} {A15_ A16_ : Addr} {KK17_ : ClassId} {P18_ : Int32} {A19_ A20_ : Addr} {KK21_ : ClassId} {A22_ : Addr} (hw : HW a0 Z) (fm1_ : Exa Z h0 A10_ cC8) (fm2_ : Fld Z h0 A10_ cC8 "others" cC11 (VR A15_)) (fm3_ : Exa Z h0 A15_ cC21) (fm4_ : Fld Z h0 A15_ cC21 "elementData" cC1 (VR A16_)) (fm5_ : Fld Z h0 A15_ cC21 "size" "I" (VI 1)) (fm6_ : Arv Z h0 A16_ KK17_ (.object "java/lang/Object") 2 [VR A13_, .null] (.null)) (fm7_ : Exa Z h0 A13_ cC18) (fm8_ : Fld Z h0 A15_ cC22 "modCount" "I" (VI P18_)) (fm9_ : A16_ ≠ A15_) (fm10_ : Exa Z h0 A16_ cC1) (fm11_ : Z.heap.size ≤ A15_) (fm12_ : Z.heap.size ≤ A16_) (fm13_ : A10_ ≠ A16_) (fm14_ : A10_ ≠ A15_) (fm15_ : Sta Z Z.heap cC34 "EMPTY_LIST" cC36 (VR A19_)) (fm16_ : Exa Z h0 A19_ cC0) (fm17_ : Fld Z h0 A19_ cC0 "elements" cC1 (VR A20_)) (fm18_ : A19_ ≠ A16_) (fm19_ : A19_ ≠ A15_) (fm20_ : Arv Z h0 A20_ KK21_ (.object "java/lang/Object") 0 [] (.null)) (fm21_ : A20_ ≠ A16_) (fm22_ : A20_ ≠ A15_) (fm23_ : Fld Z h0 A10_ cC8 "exclusive" cC10 (VR A11_)) (fm24_ : Fld Z h0 A10_ cC8 "key" cC9 (VR A22_)) (fm25_ : Fld Z h0 A10_ cC8 "version" cC1 (.null)) (fm26_ : Z.heap.size ≤ A10_) :
    own_T l Z a0 A h0 15 77 234 #[D0_, D1_, D2_, D3_, D4_, D5_, D6_, SI G7_, D8_, SR A10_, SR A11_, SR A12_, SI 1, SI 0, SR A13_, SI 1, D16_, SI 1, SU, SU, SU] := by
  refine jLI at_234 rfl (jieqN at_236 (by decide) (jLA at_239 rfl (jLA at_241 rfl (jcV 0 470 471 473 472 5 474 (nfS hw 473) (rm66_2 hw fm2_ fm3_ fm4_ fm5_ fm6_ fm7_ fm8_ fm9_ fm10_ fm11_ fm12_ fm1_ fm13_ fm14_ fm15_ fm16_ fm17_ fm18_ fm19_ fm20_ fm21_ fm22_ fm23_ fm24_ fm25_ fm26_) fm1_ pd10 at_243 rfl ?_))))
  rintro _ h1 ⟨rfl, K1, o0_1, o1_1, o2_1, o3_1, o4_1, o5_1, o6_1, o7_1, o8_1, o9_1, o10_1⟩
  exact jpO at_246 rfl (jgo 274 at_247 (own_mono (tl77 hw o6_1 o8_1 o10_1 o7_1 o9_1 fm26_)))
set_option maxRecDepth 65536 in
set_option maxHeartbeats 40000000 in
theorem tl72 {D0_ D1_ D2_ D3_ D4_ D5_ D6_ : Slot} {G7_ G8_ : Int32} {A10_ A11_ A12_ A13_ A14_ : Addr} {P15_ : Int32} {A16_ : Addr} {KK17_ : ClassId} {A18_ A19_ A20_ : Addr} {KK21_ : ClassId} {A22_ A23_ A24_ A25_ A26_ : Addr} {KK27_ : ClassId} (hw : HW a0 Z) (fm1_ : Exa Z h0 A10_ cC8) (fm2_ : Fld Z h0 A10_ cC8 "exclusive" cC10 (VR A11_)) (fm3_ : A11_ ≠ A12_) (fm4_ : Fld Z h0 A10_ cC8 "others" cC11 (VR A14_)) (fm5_ : Exa Z h0 A14_ cC21) (fm6_ : Fld Z h0 A14_ cC22 "modCount" "I" (VI P15_)) (fm7_ : Fld Z h0 A14_ cC21 "size" "I" (VI 1)) (fm8_ : Fld Z h0 A14_ cC21 "elementData" cC1 (VR A16_)) (fm9_ : Arv Z h0 A16_ KK17_ (.object "java/lang/Object") 2 [VR A13_, .null] (.null)) (fm10_ : Exa Z h0 A13_ cC18) (fm11_ : Fld Z h0 A13_ cC18 "granted" "Z" (VI 0)) (fm12_ : Exa Z h0 A16_ cC1) (fm13_ : own_Mir Z cC1 A18_) (fm14_ : Sta Z Z.heap cC34 "EMPTY" cC9 (VR A19_)) (fm15_ : Sta Z Z.heap cC21 "DEFAULTCAPACITY_EMPTY_ELEMENTDATA" cC1 (VR A20_)) (fm16_ : Arv Z h0 A20_ KK21_ (.object "java/lang/Object") 0 [] (.null)) (fm17_ : Exa Z h0 A11_ cC15) (fm18_ : Fld Z h0 A10_ cC8 "version" cC1 (.null)) (fm19_ : Z.heap.size ≤ A10_) (fm20_ : A14_ ≠ A10_) (fm21_ : A16_ ≠ A10_) (fm22_ : A13_ ≠ A10_) (fm23_ : Fld Z h0 A13_ cC18 "mode" cC3 (VR A22_)) (fm24_ : Sta Z Z.heap cC2 "EXCLUSIVE" cC3 (VR A23_)) (fm25_ : A22_ ≠ A23_) (fm26_ : Z.heap.size ≤ A13_) (fm27_ : Fld Z h0 A13_ cC18 "row" cC19 (VR A10_)) (fm28_ : Fld Z h0 A13_ cC18 "transaction" cC10 (VR A12_)) (fm29_ : Fld Z h0 A13_ cC18 "first" "Z" (VI 1)) (fm30_ : A14_ ≠ A13_) (fm31_ : Fld Z h0 A10_ cC8 "key" cC9 (VR A24_)) (fm32_ : A16_ ≠ A13_) (fm33_ : Sta Z Z.heap cC2 "SHARED" cC3 (VR A22_)) (fm34_ : A16_ ≠ A14_) (fm35_ : Sta Z Z.heap cC34 "EMPTY_LIST" cC36 (VR A25_)) (fm36_ : Exa Z h0 A25_ cC0) (fm37_ : Fld Z h0 A25_ cC0 "elements" cC1 (VR A26_)) (fm38_ : A25_ ≠ A13_) (fm39_ : A25_ ≠ A10_) (fm40_ : A25_ ≠ A16_) (fm41_ : A25_ ≠ A14_) (fm42_ : Arv Z h0 A26_ KK27_ (.object "java/lang/Object") 0 [] (.null)) (fm43_ : A26_ ≠ A13_) (fm44_ : A26_ ≠ A10_) (fm45_ : A26_ ≠ A16_) (fm46_ : A26_ ≠ A14_) (fm47_ : Z.heap.size ≤ A14_) (fm48_ : Z.heap.size ≤ A16_) (fm49_ : A10_ ≠ A16_) (fm50_ : A10_ ≠ A14_) :
    own_T l Z a0 A h0 15 77 217 #[D0_, D1_, D2_, D3_, D4_, D5_, D6_, SI G7_, SI G8_, SR A10_, SR A11_, SR A12_, SI 1, SI 0, SR A13_, SI 1, SI 1, SU, SU, SU, SU] := by
  by_cases hm0 : G8_ = (0 : Int32)
  ·
    exact jLI at_217 rfl (jieqN at_219 (by decide) (jLI at_222 rfl (jieqY 231 at_224 hm0 (jkI 0 at_231 rfl (jtI at_232 #[D0_, D1_, D2_, D3_, D4_, D5_, D6_, SI G7_, SI G8_, SR A10_, SR A11_, SR A12_, SI 1, SI 0, SR A13_, SI 1, SI 1, SI 0, SU, SU, SU] rfl (own_mono (tl73 hw fm1_ fm2_ fm3_ fm4_ fm5_ fm6_ fm7_ fm8_ fm9_ fm10_ fm11_ fm12_ fm13_ fm14_ fm15_ fm16_ fm17_ fm18_ fm19_ fm20_ fm21_ fm22_ fm23_ fm24_ fm25_ fm26_ fm27_ fm28_ fm29_ fm30_ fm31_ fm32_ fm33_ fm34_ fm35_ fm36_ fm37_ fm38_ fm39_ fm40_ fm41_ fm42_ fm43_ fm44_ fm45_ fm46_ fm47_ fm48_ fm3_.symm)))))))
  ·
    exact jLI at_217 rfl (jieqN at_219 (by decide) (jLI at_222 rfl (jieqN at_224 hm0 (jkI 1 at_227 rfl (jgo 232 at_228 (jtI at_232 #[D0_, D1_, D2_, D3_, D4_, D5_, D6_, SI G7_, SI G8_, SR A10_, SR A11_, SR A12_, SI 1, SI 0, SR A13_, SI 1, SI 1, SI 1, SU, SU, SU] rfl (own_mono (tl76 hw fm1_ fm4_ fm5_ fm8_ fm7_ fm9_ fm10_ fm6_ fm34_ fm12_ fm47_ fm48_ fm49_ fm50_ fm35_ fm36_ fm37_ fm40_ fm41_ fm42_ fm45_ fm46_ fm2_ fm31_ fm18_ fm19_))))))))
set_option maxRecDepth 65536 in
set_option maxHeartbeats 40000000 in
theorem tl71 {D0_ D1_ D2_ : Slot} {A4_ : Addr} {D4_ D5_ : Slot} {A7_ : Addr} {G7_ G8_ : Int32} {A10_ A11_ A12_ A13_ A14_ : Addr} {P15_ : Int32} {A16_ : Addr} {KK17_ : ClassId} {A18_ A19_ A20_ : Addr} {KK21_ : ClassId} {A22_ A23_ A24_ : Addr} {KK25_ : ClassId} (hw : HW a0 Z) (fm1_ : Sta Z Z.heap cC2 "SHARED" cC3 (VR A7_)) (fm2_ : A4_ ≠ A7_) (fm3_ : Exa Z h0 A10_ cC8) (fm4_ : Fld Z h0 A10_ cC8 "exclusive" cC10 (VR A11_)) (fm5_ : A11_ ≠ A12_) (fm6_ : Fld Z h0 A10_ cC8 "others" cC11 (VR A14_)) (fm7_ : Exa Z h0 A14_ cC21) (fm8_ : Fld Z h0 A14_ cC22 "modCount" "I" (VI P15_)) (fm9_ : Fld Z h0 A14_ cC21 "size" "I" (VI 1)) (fm10_ : Fld Z h0 A14_ cC21 "elementData" cC1 (VR A16_)) (fm11_ : Arv Z h0 A16_ KK17_ (.object "java/lang/Object") 2 [VR A13_, .null] (.null)) (fm12_ : Exa Z h0 A13_ cC18) (fm13_ : Fld Z h0 A13_ cC18 "granted" "Z" (VI 0)) (fm14_ : Exa Z h0 A16_ cC1) (fm15_ : own_Mir Z cC1 A18_) (fm16_ : Sta Z Z.heap cC34 "EMPTY" cC9 (VR A19_)) (fm17_ : Sta Z Z.heap cC21 "DEFAULTCAPACITY_EMPTY_ELEMENTDATA" cC1 (VR A20_)) (fm18_ : Arv Z h0 A20_ KK21_ (.object "java/lang/Object") 0 [] (.null)) (fm19_ : Exa Z h0 A11_ cC15) (fm20_ : Fld Z h0 A10_ cC8 "version" cC1 (.null)) (fm21_ : Z.heap.size ≤ A10_) (fm22_ : A14_ ≠ A10_) (fm23_ : A16_ ≠ A10_) (fm24_ : A13_ ≠ A10_) (fm25_ : Fld Z h0 A13_ cC18 "mode" cC3 (VR A7_)) (fm26_ : Sta Z Z.heap cC2 "EXCLUSIVE" cC3 (VR A4_)) (fm27_ : Z.heap.size ≤ A13_) (fm28_ : Fld Z h0 A13_ cC18 "row" cC19 (VR A10_)) (fm29_ : Fld Z h0 A13_ cC18 "transaction" cC10 (VR A12_)) (fm30_ : Fld Z h0 A13_ cC18 "first" "Z" (VI 1)) (fm31_ : A14_ ≠ A13_) (fm32_ : Fld Z h0 A10_ cC8 "key" cC9 (VR A22_)) (fm33_ : A16_ ≠ A13_) (fm34_ : A16_ ≠ A14_) (fm35_ : Sta Z Z.heap cC34 "EMPTY_LIST" cC36 (VR A23_)) (fm36_ : Exa Z h0 A23_ cC0) (fm37_ : Fld Z h0 A23_ cC0 "elements" cC1 (VR A24_)) (fm38_ : A23_ ≠ A13_) (fm39_ : A23_ ≠ A10_) (fm40_ : A23_ ≠ A16_) (fm41_ : A23_ ≠ A14_) (fm42_ : Arv Z h0 A24_ KK25_ (.object "java/lang/Object") 0 [] (.null)) (fm43_ : A24_ ≠ A13_) (fm44_ : A24_ ≠ A10_) (fm45_ : A24_ ≠ A16_) (fm46_ : A24_ ≠ A14_) (fm47_ : Z.heap.size ≤ A14_) (fm48_ : Z.heap.size ≤ A16_) :
    own_T l Z a0 A h0 15 77 190 #[D0_, D1_, D2_, SR A4_, D4_, D5_, SR A7_, SI G7_, SI G8_, SR A10_, SR A11_, SR A12_, SI 1, SI 0, SR A13_, SI 1, SU, SU, SU, SU, SU] := by
  exact jLI at_190 rfl (jieqN at_192 (by decide) (jLa at_195 rfl (jgS 0 fm1_ at_196 (jac 210 at_199 (own_dn fm2_) (jkI 1 at_210 rfl (jgo 215 at_211 (jtI at_215 #[D0_, D1_, D2_, SR A4_, D4_, D5_, SR A7_, SI G7_, SI G8_, SR A10_, SR A11_, SR A12_, SI 1, SI 0, SR A13_, SI 1, SI 1, SU, SU, SU, SU] rfl (own_mono (tl72 hw fm3_ fm4_ fm5_ fm6_ fm7_ fm8_ fm9_ fm10_ fm11_ fm12_ fm13_ fm14_ fm15_ fm16_ fm17_ fm18_ fm19_ fm20_ fm21_ fm22_ fm23_ fm24_ fm25_ fm26_ fm2_.symm fm27_ fm28_ fm29_ fm30_ fm31_ fm32_ fm33_ fm1_ fm34_ fm35_ fm36_ fm37_ fm38_ fm39_ fm40_ fm41_ fm42_ fm43_ fm44_ fm45_ fm46_ fm47_ fm48_ fm23_.symm fm22_.symm)))))))))
set_option maxRecDepth 65536 in
set_option maxHeartbeats 40000000 in
theorem tl70 {D0_ D1_ D2_ : Slot} {A4_ : Addr} {G4_ G5_ : Int32} {A7_ : Addr} {G7_ G8_ : Int32} {A10_ A11_ A12_ A13_ A14_ : Addr} {P15_ : Int32} {A16_ : Addr} {KK17_ : ClassId} {A18_ A19_ A20_ : Addr} {KK21_ : ClassId} {A22_ A23_ A24_ : Addr} {KK25_ : ClassId} (hw : HW a0 Z) (fm1_ : ¬ (G4_ = (0 : Int32))) (fm2_ : G5_ = (0 : Int32)) (fm3_ : Sta Z Z.heap cC2 "SHARED" cC3 (VR A7_)) (fm4_ : A4_ ≠ A7_) (fm5_ : Exa Z h0 A10_ cC8) (fm6_ : Fld Z h0 A10_ cC8 "exclusive" cC10 (VR A11_)) (fm7_ : A11_ ≠ A12_) (fm8_ : Fld Z h0 A10_ cC8 "others" cC11 (VR A14_)) (fm9_ : Exa Z h0 A14_ cC21) (fm10_ : Fld Z h0 A14_ cC22 "modCount" "I" (VI P15_)) (fm11_ : Fld Z h0 A14_ cC21 "size" "I" (VI 1)) (fm12_ : Fld Z h0 A14_ cC21 "elementData" cC1 (VR A16_)) (fm13_ : Arv Z h0 A16_ KK17_ (.object "java/lang/Object") 2 [VR A13_, .null] (.null)) (fm14_ : Exa Z h0 A13_ cC18) (fm15_ : Fld Z h0 A13_ cC18 "granted" "Z" (VI 0)) (fm16_ : Exa Z h0 A16_ cC1) (fm17_ : own_Mir Z cC1 A18_) (fm18_ : Sta Z Z.heap cC34 "EMPTY" cC9 (VR A19_)) (fm19_ : Sta Z Z.heap cC21 "DEFAULTCAPACITY_EMPTY_ELEMENTDATA" cC1 (VR A20_)) (fm20_ : Arv Z h0 A20_ KK21_ (.object "java/lang/Object") 0 [] (.null)) (fm21_ : Exa Z h0 A11_ cC15) (fm22_ : Fld Z h0 A10_ cC8 "version" cC1 (.null)) (fm23_ : Z.heap.size ≤ A10_) (fm24_ : A14_ ≠ A10_) (fm25_ : A16_ ≠ A10_) (fm26_ : A13_ ≠ A10_) (fm27_ : Fld Z h0 A13_ cC18 "mode" cC3 (VR A7_)) (fm28_ : Sta Z Z.heap cC2 "EXCLUSIVE" cC3 (VR A4_)) (fm29_ : Z.heap.size ≤ A13_) (fm30_ : Fld Z h0 A13_ cC18 "row" cC19 (VR A10_)) (fm31_ : Fld Z h0 A13_ cC18 "transaction" cC10 (VR A12_)) (fm32_ : Fld Z h0 A13_ cC18 "first" "Z" (VI 1)) (fm33_ : A14_ ≠ A13_) (fm34_ : Fld Z h0 A10_ cC8 "key" cC9 (VR A22_)) (fm35_ : A16_ ≠ A13_) (fm36_ : A16_ ≠ A14_) (fm37_ : Sta Z Z.heap cC34 "EMPTY_LIST" cC36 (VR A23_)) (fm38_ : Exa Z h0 A23_ cC0) (fm39_ : Fld Z h0 A23_ cC0 "elements" cC1 (VR A24_)) (fm40_ : A23_ ≠ A13_) (fm41_ : A23_ ≠ A10_) (fm42_ : A23_ ≠ A16_) (fm43_ : A23_ ≠ A14_) (fm44_ : Arv Z h0 A24_ KK25_ (.object "java/lang/Object") 0 [] (.null)) (fm45_ : A24_ ≠ A13_) (fm46_ : A24_ ≠ A10_) (fm47_ : A24_ ≠ A16_) (fm48_ : A24_ ≠ A14_) (fm49_ : Z.heap.size ≤ A14_) (fm50_ : Z.heap.size ≤ A16_) :
    own_T l Z a0 A h0 15 77 173 #[D0_, D1_, D2_, SR A4_, SI G4_, SI G5_, SR A7_, SI G7_, SI G8_, SR A10_, SR A11_, SR A12_, SI 1, SI 0, SR A13_, SU, SU, SU, SU, SU, SU] := by
  exact jLI at_173 rfl (jieqN at_175 fm1_ (jLI at_178 rfl (jineN at_180 fm2_ (jkI 1 at_183 rfl (jgo 188 at_184 (jtI at_188 #[D0_, D1_, D2_, SR A4_, SI G4_, SI G5_, SR A7_, SI G7_, SI G8_, SR A10_, SR A11_, SR A12_, SI 1, SI 0, SR A13_, SI 1, SU, SU, SU, SU, SU] rfl (own_mono (tl71 hw fm3_ fm4_ fm5_ fm6_ fm7_ fm8_ fm9_ fm10_ fm11_ fm12_ fm13_ fm14_ fm15_ fm16_ fm17_ fm18_ fm19_ fm20_ fm21_ fm22_ fm23_ fm24_ fm25_ fm26_ fm27_ fm28_ fm29_ fm30_ fm31_ fm32_ fm33_ fm34_ fm35_ fm36_ fm37_ fm38_ fm39_ fm40_ fm41_ fm42_ fm43_ fm44_ fm45_ fm46_ fm47_ fm48_ fm49_ fm50_))))))))
set_option maxRecDepth 65536 in
set_option maxHeartbeats 40000000 in
theorem rm10_5 {a1 a2 : Addr} (hw : HW a0 Z) (f3 : Fld Z h0 a1 cC8 "exclusive" cC10 (VR a2)) :
    own_M l Z h0 yM10 c10 2 (some .boolean) 0 0 0 0 #[VR a1, VR a2] (fun v h => v = some (VI 1) ∧ h0 = h) := by
  refine own_ent hw (plainFor_of_name pn2) #[SR a1, SR a2] (fun _ => rfl) fun Q k => ?_
  exact jLa d10_0 rfl (jgF 66 f3 d10_1 (jLa d10_4 rfl (jac 16 d10_5 (decide_eq_true rfl) (jkI 1 d10_16 rfl (jgo 21 d10_17 (jrZ d10_21 (k _ _ ⟨rfl, rfl⟩)))))))
set_option maxRecDepth 65536 in
set_option maxHeartbeats 40000000 in
theorem rm9_8 {a1 a2 a3 : Addr} (hw : HW a0 Z) (f10 : Exa Z h0 a1 cC8) (f12 : Fld Z h0 a1 cC8 "exclusive" cC10 (VR a2)) (f20 : Fld Z h0 a1 cC8 "others" cC11 (.null)) :
    own_M l Z h0 yM24 c9 4 (some (.object cC18)) 2 1 5 29 #[VR a1, VR a2, VR a3] (fun v h => ∃ (b4 : Addr), v = some (VR b4) ∧ Keep h0 h [] ∧ h0.size ≤ b4 ∧ Exa Z h b4 cC18 ∧ Fld Z h b4 cC18 "row" cC19 (VR a1) ∧ Fld Z h b4 cC18 "transaction" cC10 (VR a2) ∧ Fld Z h b4 cC18 "mode" cC3 (VR a3) ∧ Fld Z h b4 cC18 "first" "Z" (VI 0) ∧ Fld Z h b4 cC18 "granted" "Z" (VI 1)) := by
  refine own_ent hw (plainFor_of_name pn2) #[SR a1, SR a2, SR a3, SU] (fun _ => rfl) fun Q k => ?_
  refine jnew 75 76 77 d9_0 fun b4 h4 g4 u4 E4 A4 D4 => ?_
  have F11 := f10.ext E4
  have F13 := f12.ext E4
  refine jdU d9_3 rfl (jLa d9_4 rfl (jLa d9_5 rfl (jLa d9_6 rfl (jLa d9_7 rfl (jLa d9_8 rfl (jcP 5 78 4 80 79 5 81 (rm10_5 hw F13) F11 pd7 d9_9 rfl ?_))))))
  rintro _ _ ⟨rfl, rfl⟩
  refine jineY 19 d9_12 (by decide) (jkI 0 d9_19 rfl (jcR 1 86 87 77 88 (rm12_2 hw A4 (dN D4 (lB hw 91)) u4 (dN D4 (lB hw 93)) (dN D4 (lB hw 95)) (dZ D4 (lB hw 97)) (dZ D4 (lA hw 176))) pd8 d9_20 rfl ?_))
  rintro _ h15 ⟨rfl, K15, o0_15, o1_15, o2_15, o3_15, o4_15, o5_15⟩
  have v16 := own_lo f10.lt g4
  refine jta d9_23 #[SR a1, SR a2, SR a3, SR b4] rfl (jLa d9_24 rfl (jgF 66 (F13.keep K15 (ninS v16 nin0)) d9_25 (jLa d9_28 rfl (jac 47 d9_29 (decide_eq_true rfl) (jLa d9_47 rfl (jkI 1 d9_48 rfl (jpRZ 175 176 76 o5_15 o0_15 u4 d9_49 fun h18 W18 F18 => ?_)))))))
  refine jgo 82 d9_52 (jLa d9_82 rfl (jcP 0 177 4 179 178 5 180 (rm24_3 hw (fW ((f20.ext E4).keep K15 (ninS v16 nin0)) W18 v16)) ((F11.keep K15).wr W18) pd0 d9_83 rfl ?_))
  rintro _ _ ⟨rfl, rfl⟩
  exact jLa d9_86 rfl (jrA d9_87 (k _ _ ⟨b4, rfl, ((((Keep.refl h0 []).ext E4).trans K15 (allS (Or.inr g4) all0)).wr W18 (Or.inr g4)), g4, (o0_15.wr W18), (fS o1_15 W18 (lB hw 91) (lA hw 176)), (fS o2_15 W18 (lB hw 93) (lA hw 176)), (fS o3_15 W18 (lB hw 95) (lA hw 176)), (fS o4_15 W18 (lB hw 97) (lA hw 176)), F18⟩))
set_option maxRecDepth 65536 in
set_option maxHeartbeats 40000000 in
theorem tl65 {D0_ D1_ D2_ : Slot} {A4_ : Addr} {G4_ G5_ : Int32} {A7_ : Addr} {G7_ G8_ : Int32} {A10_ A11_ A12_ A13_ A14_ : Addr} {KK15_ : ClassId} {A16_ A17_ A18_ A19_ : Addr} {KK20_ : ClassId} (hw : HW a0 Z) (fm1_ : Exa Z h0 A10_ cC8) (fm2_ : Fld Z h0 A10_ cC8 "exclusive" cC10 (VR A11_)) (fm3_ : A11_ ≠ A12_) (fm4_ : Fld Z h0 A10_ cC8 "others" cC11 (.null)) (fm5_ : Fld Z h0 A10_ cC8 "version" cC1 (.null)) (fm6_ : Fld Z h0 A10_ cC8 "key" cC9 (VR A13_)) (fm7_ : Z.heap.size ≤ A10_) (fm8_ : Sta Z Z.heap cC2 "SHARED" cC3 (VR A7_)) (fm9_ : Sta Z Z.heap cC21 "DEFAULTCAPACITY_EMPTY_ELEMENTDATA" cC1 (VR A14_)) (fm10_ : Arv Z h0 A14_ KK15_ (.object "java/lang/Object") 0 [] (.null)) (fm11_ : Exa Z h0 A11_ cC15) (fm12_ : A4_ ≠ A7_) (fm13_ : own_Mir Z cC1 A16_) (fm14_ : Sta Z Z.heap cC34 "EMPTY" cC9 (VR A17_)) (fm15_ : A14_ ≠ A10_) (fm16_ : Sta Z Z.heap cC2 "EXCLUSIVE" cC3 (VR A4_)) (fm17_ : Sta Z Z.heap cC34 "EMPTY_LIST" cC36 (VR A18_)) (fm18_ : Exa Z h0 A18_ cC0) (fm19_ : Fld Z h0 A18_ cC0 "elements" cC1 (VR A19_)) (fm20_ : A18_ ≠ A10_) (fm21_ : Arv Z h0 A19_ KK20_ (.object "java/lang/Object") 0 [] (.null)) (fm22_ : A19_ ≠ A10_) :
    own_T l Z a0 A h0 10 54 147 #[D0_, D1_, D2_, SR A4_, SI G4_, SI G5_, SR A7_, SI G7_, SI G8_, SR A10_, SR A11_, SR A12_, SI 1, SI 0, SN, SU, SU, SU, SU, SU, SU] := by
  refine own_z fun Z0 => ?_
  by_cases hm0 : G4_ = (0 : Int32)
  ·
    exact jLI at_147 rfl (jieqY 173 at_149 hm0 (own_mono (tl66 hw hm0 fm1_ fm2_ fm3_ fm4_ fm5_ fm6_ fm7_)))
  ·
    by_cases hm1 : G5_ = (0 : Int32)
    ·
      refine jLI at_147 rfl (jieqN at_149 hm0 (jLA at_152 rfl (jLI at_154 rfl (jieqY 164 at_156 hm1 (jLA at_164 rfl (jLA at_166 rfl (jcV 0 70 71 73 72 5 74 (nfS hw 73) (rm9_7 hw fm1_ fm2_ fm3_ fm4_ fm8_ fm9_ fm10_ fm11_ fm7_ fm6_ fm5_) fm1_ pd16 at_168 rfl ?_)))))))
      rintro _ h1 ⟨b4_1, b3_44_1, b9_7_44_1, k9_7_44_1, rfl, K1, lob4_1, lob3_44_1, lob9_7_44_1, neb4b3_44_1, neb4b9_7_44_1, neb3_44b9_7_44_1, ovk9_7_44_1, o0_1, o1_1, o2_1, o3_1, o4_1, o5_1, o6_1, o7_1, o8_1, o9_1, o10_1, o11_1, o12_1, o13_1, o14_1, o15_1, o16_1⟩
      exact jtA at_171 #[D0_, D1_, D2_, SR A4_, SI G4_, SI G5_, SR A7_, SI G7_, SI G8_, SR A10_, SR A11_, SR A12_, SI 1, SI 0, SR b4_1, SU, SU, SU, SU, SU, SU] rfl (own_mono (tl70 hw hm0 hm1 fm8_ fm12_ o0_1 o2_1 fm3_ o1_1 o11_1 o13_1 o12_1 o14_1 o16_1 o5_1 o10_1 o15_1 fm13_ fm14_ fm9_ (fm10_.keep K1 (ninS fm15_ nin0)) (fm11_.keep K1) o4_1 fm7_ (own_lo fm1_.lt lob3_44_1).symm (own_lo fm1_.lt lob9_7_44_1).symm (own_lo fm1_.lt lob4_1).symm o8_1 fm16_ (Nat.le_trans Z0 lob4_1) o6_1 o7_1 o9_1 neb4b3_44_1.symm o3_1 neb4b9_7_44_1.symm neb3_44b9_7_44_1.symm fm17_ (fm18_.keep K1) (fm19_.keep K1 (ninS fm20_ nin0)) (own_lo fm18_.lt lob4_1) fm20_ (own_lo fm18_.lt lob9_7_44_1) (own_lo fm18_.lt lob3_44_1) (fm21_.keep K1 (ninS fm22_ nin0)) (own_lo fm21_.lt lob4_1) fm22_ (own_lo fm21_.lt lob9_7_44_1) (own_lo fm21_.lt lob3_44_1) (Nat.le_trans Z0 lob3_44_1) (Nat.le_trans Z0 lob9_7_44_1)))
    ·
      refine jLI at_147 rfl (jieqN at_149 hm0 (jLA at_152 rfl (jLI at_154 rfl (jieqN at_156 hm1 (jLA at_159 rfl (jgo 166 at_161 (jLA at_166 rfl (jcV 0 70 71 73 72 5 74 (nfS hw 73) (rm9_8 hw fm1_ fm2_ fm4_) fm1_ pd16 at_168 rfl ?_))))))))
      rintro _ h1 ⟨b4_1, rfl, K1, lob4_1, o0_1, o1_1, o2_1, o3_1, o4_1, o5_1⟩
      exact jtA at_171 #[D0_, D1_, D2_, SR A4_, SI G4_, SI G5_, SR A7_, SI G7_, SI G8_, SR A10_, SR A11_, SR A12_, SI 1, SI 0, SR b4_1, SU, SU, SU, SU, SU, SU] rfl (own_mono (tl51 hw hm0 hm1 (fm1_.keep K1) (fm2_.keep K1 nin0) fm3_ (fm4_.keep K1 nin0) (fm5_.keep K1 nin0) (fm6_.keep K1 nin0) fm7_))
set_option maxRecDepth 65536 in
set_option maxHeartbeats 40000000 in
theorem tl64 {D0_ D1_ D2_ : Slot} {A4_ : Addr} {G4_ G5_ : Int32} {A7_ : Addr} {G7_ G8_ : Int32} {A10_ A11_ A12_ A13_ A14_ : Addr} {KK15_ : ClassId} {A16_ A17_ A18_ A19_ : Addr} {KK20_ : ClassId} (hw : HW a0 Z) (fm1_ : Exa Z h0 A10_ cC8) (fm2_ : Fld Z h0 A10_ cC8 "exclusive" cC10 (.null)) (fm3_ : Fld Z h0 A10_ cC8 "others" cC11 (.null)) (fm4_ : Sta Z Z.heap cC2 "SHARED" cC3 (VR A7_)) (fm5_ : A4_ ≠ A7_) (fm6_ : Sta Z Z.heap cC21 "DEFAULTCAPACITY_EMPTY_ELEMENTDATA" cC1 (VR A13_)) (fm7_ : Sta Z Z.heap cC2 "EXCLUSIVE" cC3 (VR A4_)) (fm8_ : Z.heap.size ≤ A10_) (fm9_ : Fld Z h0 A10_ cC8 "key" cC9 (VR A14_)) (fm10_ : Fld Z h0 A10_ cC8 "version" cC1 (.null)) (fm11_ : A11_ ≠ A12_) (fm12_ : Arv Z h0 A13_ KK15_ (.object "java/lang/Object") 0 [] (.null)) (fm13_ : A13_ ≠ A10_) (fm14_ : Exa Z h0 A11_ cC15) (fm15_ : own_Mir Z cC1 A16_) (fm16_ : Sta Z Z.heap cC34 "EMPTY" cC9 (VR A17_)) (fm17_ : Sta Z Z.heap cC34 "EMPTY_LIST" cC36 (VR A18_)) (fm18_ : Exa Z h0 A18_ cC0) (fm19_ : Fld Z h0 A18_ cC0 "elements" cC1 (VR A19_)) (fm20_ : A18_ ≠ A10_) (fm21_ : Arv Z h0 A19_ KK20_ (.object "java/lang/Object") 0 [] (.null)) (fm22_ : A19_ ≠ A10_) :
    own_T l Z a0 A h0 6 41 128 #[D0_, D1_, D2_, SR A4_, SI G4_, SI G5_, SR A7_, SI G7_, SI G8_, SR A10_, SR A11_, SR A12_, SI 1, SU, SU, SU, SU, SU, SU, SU, SU] := by
  refine jLA at_128 rfl (jLA at_130 rfl (jLa at_132 rfl (jcV 0 70 71 73 72 5 74 (nfS hw 73) (rm9_6 hw fm1_ fm2_ fm3_ fm4_ fm5_ fm6_ fm7_ fm8_ fm9_ fm10_) fm1_ pd16 at_133 rfl ?_)))
  rintro _ h1 ⟨b4_1, rfl, K1, lob4_1, o0_1, o1_1, o2_1, o3_1, o4_1, o5_1, o6_1, o7_1, o8_1, o9_1, o10_1⟩
  refine jpO at_136 rfl (jLA at_137 rfl (jcV 0 61 62 64 63 5 65 (nfS hw 64) (rm8_3 hw o2_1) o0_1 pd5 at_139 rfl ?_))
  rintro _ _ ⟨rfl, rfl⟩
  exact jtI at_142 #[D0_, D1_, D2_, SR A4_, SI G4_, SI G5_, SR A7_, SI G7_, SI G8_, SR A10_, SR A11_, SR A12_, SI 1, SI 0, SU, SU, SU, SU, SU, SU, SU] rfl (jkN at_144 (jntA at_145 #[D0_, D1_, D2_, SR A4_, SI G4_, SI G5_, SR A7_, SI G7_, SI G8_, SR A10_, SR A11_, SR A12_, SI 1, SI 0, SN, SU, SU, SU, SU, SU, SU] rfl (own_mono (tl65 hw o0_1 o2_1 fm11_ o1_1 o4_1 o3_1 fm8_ fm4_ fm6_ (fm12_.keep K1 (ninS fm13_ nin0)) (fm14_.keep K1) fm5_ fm15_ fm16_ fm13_ fm7_ fm17_ (fm18_.keep K1) (fm19_.keep K1 (ninS fm20_ nin0)) fm20_ (fm21_.keep K1 (ninS fm22_ nin0)) fm22_))))
set_option maxRecDepth 65536 in
set_option maxHeartbeats 40000000 in
theorem tl63 {D0_ D1_ D2_ : Slot} {A4_ : Addr} {G4_ G5_ : Int32} {A7_ : Addr} {G7_ G8_ : Int32} {A10_ A11_ A12_ A13_ A14_ : Addr} {KK15_ : ClassId} {A16_ A17_ A18_ A19_ : Addr} {KK20_ : ClassId} (hw : HW a0 Z) (fm1_ : Exa Z h0 A10_ cC8) (fm2_ : Fld Z h0 A10_ cC8 "exclusive" cC10 (.null)) (fm3_ : Fld Z h0 A10_ cC8 "others" cC11 (.null)) (fm4_ : Sta Z Z.heap cC2 "SHARED" cC3 (VR A7_)) (fm5_ : A4_ ≠ A7_) (fm6_ : Sta Z Z.heap cC21 "DEFAULTCAPACITY_EMPTY_ELEMENTDATA" cC1 (VR A13_)) (fm7_ : Sta Z Z.heap cC2 "EXCLUSIVE" cC3 (VR A4_)) (fm8_ : Z.heap.size ≤ A10_) (fm9_ : Fld Z h0 A10_ cC8 "key" cC9 (VR A14_)) (fm10_ : Fld Z h0 A10_ cC8 "version" cC1 (.null)) (fm11_ : A11_ ≠ A12_) (fm12_ : Arv Z h0 A13_ KK15_ (.object "java/lang/Object") 0 [] (.null)) (fm13_ : A13_ ≠ A10_) (fm14_ : Exa Z h0 A11_ cC15) (fm15_ : own_Mir Z cC1 A16_) (fm16_ : Sta Z Z.heap cC34 "EMPTY" cC9 (VR A17_)) (fm17_ : Sta Z Z.heap cC34 "EMPTY_LIST" cC36 (VR A18_)) (fm18_ : Exa Z h0 A18_ cC0) (fm19_ : Fld Z h0 A18_ cC0 "elements" cC1 (VR A19_)) (fm20_ : A18_ ≠ A10_) (fm21_ : Arv Z h0 A19_ KK20_ (.object "java/lang/Object") 0 [] (.null)) (fm22_ : A19_ ≠ A10_) :
    own_T l Z a0 A h0 6 41 121 #[D0_, D1_, D2_, SR A4_, SI G4_, SI G5_, SR A7_, SI G7_, SI G8_, SR A10_, SR A11_, SR A12_, SU, SU, SU, SU, SU, SU, SU, SU, SU] := by
  refine jLA at_121 rfl (jcV 0 61 62 64 63 5 65 (nfS hw 64) (rm8_1 hw fm2_ fm3_) fm1_ pd5 at_123 rfl ?_)
  rintro _ _ ⟨rfl, rfl⟩
  exact jtI at_126 #[D0_, D1_, D2_, SR A4_, SI G4_, SI G5_, SR A7_, SI G7_, SI G8_, SR A10_, SR A11_, SR A12_, SI 1, SU, SU, SU, SU, SU, SU, SU, SU] rfl (own_mono (tl64 hw fm1_ fm2_ fm3_ fm4_ fm5_ fm6_ fm7_ fm8_ fm9_ fm10_ fm11_ fm12_ fm13_ fm14_ fm15_ fm16_ fm17_ fm18_ fm19_ fm20_ fm21_ fm22_))
set_option maxRecDepth 65536 in
set_option maxHeartbeats 40000000 in
theorem tl62 {D0_ : Slot} {PJ2_ : Int64} {A3_ : Addr} {G4_ G5_ : Int32} {A6_ : Addr} {G7_ G8_ : Int32} {A9_ A10_ : Addr} {KK11_ : ClassId} {A12_ A13_ A14_ A15_ : Addr} {KK16_ : ClassId} (hw : HW a0 Z) (fm1_ : Sta Z Z.heap cC6 "cache" cC7 (VR A9_)) (fm2_ : own_BoxLong Z A9_) (fm3_ : Sta Z Z.heap cC2 "SHARED" cC3 (VR A6_)) (fm4_ : A3_ ≠ A6_) (fm5_ : Sta Z Z.heap cC21 "DEFAULTCAPACITY_EMPTY_ELEMENTDATA" cC1 (VR A10_)) (fm6_ : Sta Z Z.heap cC2 "EXCLUSIVE" cC3 (VR A3_)) (fm7_ : Arv Z h0 A10_ KK11_ (.object "java/lang/Object") 0 [] (.null)) (fm8_ : own_Mir Z cC1 A12_) (fm9_ : Sta Z Z.heap cC34 "EMPTY" cC9 (VR A13_)) (fm10_ : Sta Z Z.heap cC34 "EMPTY_LIST" cC36 (VR A14_)) (fm11_ : Exa Z h0 A14_ cC0) (fm12_ : Fld Z h0 A14_ cC0 "elements" cC1 (VR A15_)) (fm13_ : Arv Z h0 A15_ KK16_ (.object "java/lang/Object") 0 [] (.null)) :
    own_T l Z a0 A h0 0 0 88 #[D0_, SJ PJ2_, SS, SR A3_, SI G4_, SI G5_, SR A6_, SI G7_, SI G8_, SU, SU, SU, SU, SU, SU, SU, SU, SU, SU, SU, SU] := by
  refine jnew 3 4 5 at_88 fun b1 h1 g1 u1 E1 A1 D1 => ?_
  refine jdU at_91 rfl (jLj at_92 rfl (jcS 2 6 7 8 9 (rm1_m1 hw fm1_ fm2_) pd2 at_93 rfl ?_))
  rintro _ h6 ⟨r0_6, rfl, K6, o0_6⟩
  refine jcI 1 14 15 5 16 (rm2_1 hw (A1.keep K6) ((dN D1 (lB hw 21)).keep K6 nin0) u1 ((dN D1 (lA hw 67)).keep K6 nin0) ((dN D1 (lA hw 69)).keep K6 nin0) ((dN D1 (lA hw 419)).keep K6 nin0)) pd3 at_96 rfl ?_
  rintro _ h12 ⟨rfl, K12, o0_12, o1_12, o2_12, o3_12, o4_12⟩
  refine jtA at_99 #[D0_, SJ PJ2_, SS, SR A3_, SI G4_, SI G5_, SR A6_, SI G7_, SI G8_, SR b1, SU, SU, SU, SU, SU, SU, SU, SU, SU, SU, SU] rfl (jnew 22 23 24 at_101 fun b13 h13 g13 u13 E13 A13 D13 => ?_)
  refine jdU at_104 rfl (jkN at_105 (jcI 1 25 26 24 27 (rm4_1 hw A13 (dN D13 (lB hw 56)) u13 (dJ D13 (lA hw 58)) (dN D13 (lB hw 60))) pd4 at_106 rfl ?_))
  rintro _ h17 ⟨b2_17, rfl, K17, lob2_17, o0_17, o1_17, o2_17, o3_17, o4_17, o5_17, o6_17, o7_17⟩
  refine jtA at_109 #[D0_, SJ PJ2_, SS, SR A3_, SI G4_, SI G5_, SR A6_, SI G7_, SI G8_, SR b1, SR b13, SU, SU, SU, SU, SU, SU, SU, SU, SU, SU] rfl (jnew 22 23 24 at_111 fun b18 h18 g18 u18 E18 A18 D18 => ?_)
  refine jdU at_114 rfl (jkN at_115 (jcI 1 25 26 24 27 (rm4_1 hw A18 (dN D18 (lB hw 56)) u18 (dJ D18 (lA hw 58)) (dN D18 (lB hw 60))) pd4 at_116 rfl ?_))
  rintro _ h22 ⟨b2_22, rfl, K22, lob2_22, o0_22, o1_22, o2_22, o3_22, o4_22, o5_22, o6_22, o7_22⟩
  have z26 := Nat.le_trans K6.1 K12.1
  have v24 := own_lo A1.lt (Nat.le_trans z26 g13)
  have v27 := own_lo A1.lt (Nat.le_trans (Nat.le_trans (Nat.le_trans z26 E13.1) K17.1) g18)
  have v36 := own_lo fm7_.lt g1
  have z40 := Nat.le_trans (Nat.le_trans E1.1 K6.1) K12.1
  have z43 := Nat.le_trans (Nat.le_trans z40 E13.1) K17.1
  have v47 := own_lo fm11_.lt g1
  have v51 := own_lo fm13_.lt g1
  exact jtA at_119 #[D0_, SJ PJ2_, SS, SR A3_, SI G4_, SI G5_, SR A6_, SI G7_, SI G8_, SR b1, SR b13, SR b18, SU, SU, SU, SU, SU, SU, SU, SU, SU] rfl (own_mono (tl63 hw ((((o0_12.ext E13).keep K17).ext E18).keep K22) ((((o2_12.ext E13).keep K17 (ninS v24 nin0)).ext E18).keep K22 (ninS v27 nin0)) ((((o3_12.ext E13).keep K17 (ninS v24 nin0)).ext E18).keep K22 (ninS v27 nin0)) fm3_ fm4_ fm5_ fm6_ u1 ((((o1_12.ext E13).keep K17 (ninS v24 nin0)).ext E18).keep K22 (ninS v27 nin0)) ((((o4_12.ext E13).keep K17 (ninS v24 nin0)).ext E18).keep K22 (ninS v27 nin0)) (own_lo A13.lt (Nat.le_trans K17.1 g18)) (((((((fm7_.ext E1).keep K6 nin0).keep K12 (ninS v36 nin0)).ext E13).keep K17 (ninS (own_lo fm7_.lt (Nat.le_trans z40 g13)) nin0)).ext E18).keep K22 (ninS (own_lo fm7_.lt (Nat.le_trans z43 g18)) nin0)) v36 ((o0_17.ext E18).keep K22) fm8_ fm9_ fm10_ (((((((fm11_.ext E1).keep K6).keep K12).ext E13).keep K17).ext E18).keep K22) (((((((fm12_.ext E1).keep K6 nin0).keep K12 (ninS v47 nin0)).ext E13).keep K17 (ninS (own_lo fm11_.lt (Nat.le_trans z40 g13)) nin0)).ext E18).keep K22 (ninS (own_lo fm11_.lt (Nat.le_trans z43 g18)) nin0)) v47 (((((((fm13_.ext E1).keep K6 nin0).keep K12 (ninS v51 nin0)).ext E13).keep K17 (ninS (own_lo fm13_.lt (Nat.le_trans z40 g13)) nin0)).ext E18).keep K22 (ninS (own_lo fm13_.lt (Nat.le_trans z43 g18)) nin0)) v51))
set_option maxRecDepth 65536 in
set_option maxHeartbeats 40000000 in
theorem tl61 {P1_ : Int32} {PJ2_ : Int64} {A3_ : Addr} {G4_ G5_ : Int32} {A6_ : Addr} {G7_ : Int32} {A8_ A9_ : Addr} {KK10_ : ClassId} {A11_ A12_ A13_ A14_ : Addr} {KK15_ : ClassId} (hw : HW a0 Z) (fm1_ : Sta Z Z.heap cC6 "cache" cC7 (VR A8_)) (fm2_ : own_BoxLong Z A8_) (fm3_ : Sta Z Z.heap cC2 "SHARED" cC3 (VR A6_)) (fm4_ : A3_ ≠ A6_) (fm5_ : Sta Z Z.heap cC21 "DEFAULTCAPACITY_EMPTY_ELEMENTDATA" cC1 (VR A9_)) (fm6_ : Sta Z Z.heap cC2 "EXCLUSIVE" cC3 (VR A3_)) (fm7_ : Arv Z h0 A9_ KK10_ (.object "java/lang/Object") 0 [] (.null)) (fm8_ : own_Mir Z cC1 A11_) (fm9_ : Sta Z Z.heap cC34 "EMPTY" cC9 (VR A12_)) (fm10_ : Sta Z Z.heap cC34 "EMPTY_LIST" cC36 (VR A13_)) (fm11_ : Exa Z h0 A13_ cC0) (fm12_ : Fld Z h0 A13_ cC0 "elements" cC1 (VR A14_)) (fm13_ : Arv Z h0 A14_ KK15_ (.object "java/lang/Object") 0 [] (.null)) :
    own_T l Z a0 A h0 0 0 74 #[SI P1_, SJ PJ2_, SS, SR A3_, SI G4_, SI G5_, SR A6_, SI G7_, SU, SU, SU, SU, SU, SU, SU, SU, SU, SU, SU, SU, SU] := by
  by_cases hm0 : (P1_ &&& (32 : Int32)) = (0 : Int32)
  ·
    exact jLi at_74 rfl (jkB 32 at_75 rfl (jiand at_77 (jieqY 85 at_78 hm0 (jkI 0 at_85 rfl (jtI at_86 #[SI P1_, SJ PJ2_, SS, SR A3_, SI G4_, SI G5_, SR A6_, SI G7_, SI 0, SU, SU, SU, SU, SU, SU, SU, SU, SU, SU, SU, SU] rfl (own_mono (tl62 hw fm1_ fm2_ fm3_ fm4_ fm5_ fm6_ fm7_ fm8_ fm9_ fm10_ fm11_ fm12_ fm13_)))))))
  ·
    exact jLi at_74 rfl (jkB 32 at_75 rfl (jiand at_77 (jieqN at_78 hm0 (jkI 1 at_81 rfl (jgo 86 at_82 (jtI at_86 #[SI P1_, SJ PJ2_, SS, SR A3_, SI G4_, SI G5_, SR A6_, SI G7_, SI 1, SU, SU, SU, SU, SU, SU, SU, SU, SU, SU, SU, SU] rfl (own_mono (tl62 hw fm1_ fm2_ fm3_ fm4_ fm5_ fm6_ fm7_ fm8_ fm9_ fm10_ fm11_ fm12_ fm13_))))))))
set_option maxRecDepth 65536 in
set_option maxHeartbeats 40000000 in
theorem tl60 {P1_ : Int32} {PJ2_ : Int64} {A3_ : Addr} {G4_ G5_ : Int32} {A6_ A7_ A8_ : Addr} {KK9_ : ClassId} {A10_ A11_ A12_ A13_ : Addr} {KK14_ : ClassId} (hw : HW a0 Z) (fm1_ : Sta Z Z.heap cC6 "cache" cC7 (VR A7_)) (fm2_ : own_BoxLong Z A7_) (fm3_ : Sta Z Z.heap cC2 "SHARED" cC3 (VR A6_)) (fm4_ : A3_ ≠ A6_) (fm5_ : Sta Z Z.heap cC21 "DEFAULTCAPACITY_EMPTY_ELEMENTDATA" cC1 (VR A8_)) (fm6_ : Sta Z Z.heap cC2 "EXCLUSIVE" cC3 (VR A3_)) (fm7_ : Arv Z h0 A8_ KK9_ (.object "java/lang/Object") 0 [] (.null)) (fm8_ : own_Mir Z cC1 A10_) (fm9_ : Sta Z Z.heap cC34 "EMPTY" cC9 (VR A11_)) (fm10_ : Sta Z Z.heap cC34 "EMPTY_LIST" cC36 (VR A12_)) (fm11_ : Exa Z h0 A12_ cC0) (fm12_ : Fld Z h0 A12_ cC0 "elements" cC1 (VR A13_)) (fm13_ : Arv Z h0 A13_ KK14_ (.object "java/lang/Object") 0 [] (.null)) :
    own_T l Z a0 A h0 0 0 60 #[SI P1_, SJ PJ2_, SS, SR A3_, SI G4_, SI G5_, SR A6_, SU, SU, SU, SU, SU, SU, SU, SU, SU, SU, SU, SU, SU, SU] := by
  by_cases hm0 : (P1_ &&& (16 : Int32)) = (0 : Int32)
  ·
    exact jLi at_60 rfl (jkB 16 at_61 rfl (jiand at_63 (jieqY 71 at_64 hm0 (jkI 0 at_71 rfl (jtI at_72 #[SI P1_, SJ PJ2_, SS, SR A3_, SI G4_, SI G5_, SR A6_, SI 0, SU, SU, SU, SU, SU, SU, SU, SU, SU, SU, SU, SU, SU] rfl (own_mono (tl61 hw fm1_ fm2_ fm3_ fm4_ fm5_ fm6_ fm7_ fm8_ fm9_ fm10_ fm11_ fm12_ fm13_)))))))
  ·
    exact jLi at_60 rfl (jkB 16 at_61 rfl (jiand at_63 (jieqN at_64 hm0 (jkI 1 at_67 rfl (jgo 72 at_68 (jtI at_72 #[SI P1_, SJ PJ2_, SS, SR A3_, SI G4_, SI G5_, SR A6_, SI 1, SU, SU, SU, SU, SU, SU, SU, SU, SU, SU, SU, SU, SU] rfl (own_mono (tl61 hw fm1_ fm2_ fm3_ fm4_ fm5_ fm6_ fm7_ fm8_ fm9_ fm10_ fm11_ fm12_ fm13_))))))))
set_option maxRecDepth 65536 in
set_option maxHeartbeats 40000000 in
theorem rm9_9 {a1 a2 a3 a12 a22 a26 : Addr} {k28 : ClassId} {a39 : Addr} (hw : HW a0 Z) (f10 : Exa Z h0 a1 cC8) (f13 : Fld Z h0 a1 cC8 "exclusive" cC10 (VR a12)) (f15 : a12 ≠ a2) (f16 : Fld Z h0 a1 cC8 "others" cC11 (.null)) (f23 : Sta Z Z.heap cC2 "SHARED" cC3 (VR a22)) (f24 : a3 ≠ a22) (f27 : Sta Z Z.heap cC21 "DEFAULTCAPACITY_EMPTY_ELEMENTDATA" cC1 (VR a26)) (f29 : Arv Z h0 a26 k28 (.object "java/lang/Object") 0 [] (.null)) (f32 : Exa Z h0 a12 cC15) (f40 : Fld Z h0 a1 cC8 "key" cC9 (VR a39)) (f42 : Fld Z h0 a1 cC8 "version" cC1 (.null)) (f44 : Z.heap.size ≤ a1) :
    own_M l Z h0 yM24 c9 4 (some (.object cC18)) 7 5 23 99 #[VR a1, VR a2, VR a3] (fun v h => ∃ (b4 b3_45 b9_7_45 : Addr) (k9_7_45 : ClassId), v = some (VR b4) ∧ Keep h0 h [a1] ∧ h0.size ≤ b4 ∧ h0.size ≤ b3_45 ∧ h0.size ≤ b9_7_45 ∧ b4 ≠ b3_45 ∧ b4 ≠ b9_7_45 ∧ b3_45 ≠ b9_7_45 ∧ Ovr Z k9_7_45 cC24 ∧ Exa Z h a1 cC8 ∧ Fld Z h a1 cC8 "others" cC11 (VR b3_45) ∧ Fld Z h a1 cC8 "exclusive" cC10 (VR a12) ∧ Fld Z h a1 cC8 "key" cC9 (VR a39) ∧ Fld Z h a1 cC8 "version" cC1 (.null) ∧ Exa Z h b4 cC18 ∧ Fld Z h b4 cC18 "row" cC19 (VR a1) ∧ Fld Z h b4 cC18 "transaction" cC10 (VR a2) ∧ Fld Z h b4 cC18 "mode" cC3 (VR a3) ∧ Fld Z h b4 cC18 "first" "Z" (VI 1) ∧ Fld Z h b4 cC18 "granted" "Z" (VI 0) ∧ Exa Z h b3_45 cC21 ∧ Fld Z h b3_45 cC21 "size" "I" (VI 1) ∧ Fld Z h b3_45 cC22 "modCount" "I" (VI 1) ∧ Fld Z h b3_45 cC21 "elementData" cC1 (VR b9_7_45) ∧ Exa Z h b9_7_45 cC1 ∧ Arv Z h b9_7_45 k9_7_45 (.object "java/lang/Object") 2 [VR b4, .null] (.null)) := by
  refine own_ent hw (plainFor_of_name pn2) #[SR a1, SR a2, SR a3, SU] (fun _ => rfl) fun Q k => ?_
  refine own_z fun Z0 => ?_
  refine jnew 75 76 77 d9_0 fun b4 h4 g4 u4 E4 A4 D4 => ?_
  have F11 := f10.ext E4
  have F14 := f13.ext E4
  have F17 := f16.ext E4
  refine jdU d9_3 rfl (jLa d9_4 rfl (jLa d9_5 rfl (jLa d9_6 rfl (jLa d9_7 rfl (jLa d9_8 rfl (jcP 5 78 4 80 79 5 81 (rm10_4 hw F14 f15 F11 F17) F11 pd7 d9_9 rfl ?_))))))
  rintro _ _ ⟨rfl, rfl⟩
  refine jineN d9_12 (by decide) (jkI 1 d9_15 rfl (jgo 20 d9_16 (jcR 1 86 87 77 88 (rm12_1 hw A4 (dN D4 (lB hw 91)) u4 (dN D4 (lB hw 93)) (dN D4 (lB hw 95)) (dZ D4 (lB hw 97)) (dZ D4 (lA hw 176))) pd8 d9_20 rfl ?_)))
  rintro _ h19 ⟨rfl, K19, o0_19, o1_19, o2_19, o3_19, o4_19, o5_19⟩
  have v20 := own_lo f10.lt g4
  have F21 := F14.keep K19 (ninS v20 nin0)
  have F25 := F11.keep K19
  have F34 := F17.keep K19 (ninS v20 nin0)
  refine jta d9_23 #[SR a1, SR a2, SR a3, SR b4] rfl (jLa d9_24 rfl (jgF 66 F21 d9_25 (jLa d9_28 rfl (jac 32 d9_29 (own_dn f15) (jLa d9_32 rfl (jgS 98 f23 d9_33 (jac 55 d9_36 (own_dn f24) (jLa d9_55 rfl (jLa d9_56 rfl (jcP 0 99 4 101 100 5 102 (rm13_7 hw F25 f27 F21 ((f29.ext E4).keep K19 (ninS (own_lo f29.lt g4) nin0)) ((f32.ext E4).keep K19) F34) F25 pd10 d9_57 rfl ?_))))))))))
  rintro _ h35 ⟨rfl, K35⟩
  have F36 := F25.keep K35
  refine jieqY 71 d9_60 (by decide) (jLa d9_71 rfl (jcP 0 150 4 152 151 5 153 (rm20_3 hw (F34.keep K35 nin0) F36 f44 (F21.keep K35 nin0) (((f40.ext E4).keep K19 (ninS v20 nin0)).keep K35 nin0) (((f42.ext E4).keep K19 (ninS v20 nin0)).keep K35 nin0)) F36 pd12 d9_72 rfl ?_))
  rintro _ h45 ⟨b3_45, b9_7_45, k9_7_45, rfl, K45, lob3_45, lob9_7_45, neb3b9_7_45, ovk9_7_45, o0_45, o1_45, o2_45, o3_45, o4_45, o5_45, o6_45, o7_45, o8_45, o9_45, o10_45⟩
  have F46 := (o0_19.keep K35).keep K45
  have z50 := Nat.le_trans (Nat.le_trans E4.1 K19.1) K35.1
  refine jLa d9_75 rfl (jcF 0 159 160 161 162 163 164 165 139 110 166 (rm22_1 hw o6_45 o5_45 (Nat.le_trans Z0 (Nat.le_trans z50 lob3_45)) o7_45 o8_45 o9_45 neb3b9_7_45.symm (Nat.le_trans Z0 (Nat.le_trans z50 lob9_7_45)) ovk9_7_45 F46 o10_45) o5_45 pd14 d9_76 rfl ?_)
  rintro _ h52 ⟨rfl, K52, o0_52, o1_52, o2_52, o3_52, o4_52, o5_52⟩
  have F53 := o1_45.keep K52
  have v54 := own_lo f10.lt (Nat.le_trans z50 lob9_7_45)
  have v55 := own_lo f10.lt (Nat.le_trans z50 lob3_45)
  have F56 := o0_45.keep K52 (ninS v55 (ninS v54 nin0))
  refine jpO d9_81 rfl (jLa d9_82 rfl (jcP 0 177 4 179 178 5 180 (rm24_1 hw F56 o0_52 o1_52) F53 pd0 d9_83 rfl ?_))
  rintro _ _ ⟨rfl, rfl⟩
  have z64 := Nat.le_trans K19.1 K35.1
  have v62 := own_lo A4.lt (Nat.le_trans z64 lob9_7_45)
  have v65 := own_lo A4.lt (Nat.le_trans z64 lob3_45)
  exact jLa d9_86 rfl (jrA d9_87 (k _ _ ⟨b4, b3_45, b9_7_45, k9_7_45, rfl, ((((((Keep.refl h0 [a1]).ext E4).trans K19 (allS (Or.inr g4) all0)).trans K35 all0).trans K45 (allS (mI 0) all0)).trans K52 (allS (Or.inr (Nat.le_trans z50 lob3_45)) (allS (Or.inr (Nat.le_trans z50 lob9_7_45)) all0))), g4, (Nat.le_trans z50 lob3_45), (Nat.le_trans z50 lob9_7_45), v65, v62, neb3b9_7_45, ovk9_7_45, F53, F56, (o2_45.keep K52 (ninS v55 (ninS v54 nin0))), (o3_45.keep K52 (ninS v55 (ninS v54 nin0))), (o4_45.keep K52 (ninS v55 (ninS v54 nin0))), (F46.keep K52), (((o1_19.keep K35 nin0).keep K45 (ninS v20.symm nin0)).keep K52 (ninS v65 (ninS v62 nin0))), (((o2_19.keep K35 nin0).keep K45 (ninS v20.symm nin0)).keep K52 (ninS v65 (ninS v62 nin0))), (((o3_19.keep K35 nin0).keep K45 (ninS v20.symm nin0)).keep K52 (ninS v65 (ninS v62 nin0))), (((o4_19.keep K35 nin0).keep K45 (ninS v20.symm nin0)).keep K52 (ninS v65 (ninS v62 nin0))), (((o5_19.keep K35 nin0).keep K45 (ninS v20.symm nin0)).keep K52 (ninS v65 (ninS v62 nin0))), o0_52, o1_52, o2_52, o3_52, o4_52, o5_52⟩))
set_option maxRecDepth 65536 in
set_option maxHeartbeats 40000000 in
theorem rm25_12 {a1 a2 a12 : Addr} {p17 : Int32} {a23 : Addr} {k26 : ClassId} {a27 a44 a48 a51 a54 a58 a65 : Addr} (hw : HW a0 Z) (f3 : Fld Z h0 a1 cC8 "exclusive" cC10 (VR a2)) (f4 : Exa Z h0 a1 cC8) (f5 : Z.heap.size ≤ a1) (f8 : Fld Z h0 a1 cC8 "version" cC1 (.null)) (f13 : Fld Z h0 a1 cC8 "others" cC11 (VR a12)) (f15 : Exa Z h0 a12 cC21) (f18 : Fld Z h0 a12 cC22 "modCount" "I" (VI p17)) (f19 : a12 ≠ a1) (f21 : Fld Z h0 a12 cC21 "size" "I" (VI 1)) (f24 : Fld Z h0 a12 cC21 "elementData" cC1 (VR a23)) (f28 : Arv Z h0 a23 k26 (.object "java/lang/Object") 2 [VR a27, .null] (.null)) (f29 : a23 ≠ a1) (f31 : Exa Z h0 a27 cC18) (f33 : Fld Z h0 a27 cC18 "granted" "Z" (VI 0)) (f34 : a27 ≠ a1) (f42 : Exa Z h0 a23 cC1) (f45 : own_Mir Z cC1 a44) (f49 : Sta Z Z.heap cC34 "EMPTY" cC9 (VR a48)) (f52 : Sta Z Z.heap cC21 "DEFAULTCAPACITY_EMPTY_ELEMENTDATA" cC1 (VR a51)) (f55 : Fld Z h0 a27 cC18 "mode" cC3 (VR a54)) (f57 : Sta Z Z.heap cC2 "EXCLUSIVE" cC3 (VR a54)) (f59 : Fld Z h0 a27 cC18 "transaction" cC10 (VR a58)) (f62 : a23 ≠ a12) (f63 : a27 ≠ a23) (f64 : a27 ≠ a12) (f66 : Fld Z h0 a1 cC8 "key" cC9 (VR a65)) (f69 : Fld Z h0 a27 cC18 "row" cC19 (VR a1)) (f71 : Fld Z h0 a27 cC18 "first" "Z" (VI 1)) (f73 : Z.heap.size ≤ a12) (f74 : Z.heap.size ≤ a23) (f75 : Z.heap.size ≤ a27) :
    own_M l Z h0 yM49 c25 3 (some .boolean) 9 6 18 115 #[VR a1, VR a2] (fun v h => v = some (VI 1) ∧ Keep h0 h [a1, a12, a23, a27] ∧ Exa Z h a1 cC8 ∧ Fld Z h a1 cC8 "others" cC11 (.null) ∧ Fld Z h a1 cC8 "exclusive" cC10 (VR a58) ∧ Fld Z h a1 cC8 "key" cC9 (VR a65) ∧ Fld Z h a1 cC8 "version" cC1 (.null) ∧ Exa Z h a12 cC21 ∧ Fld Z h a12 cC22 "modCount" "I" (VI (p17 + (1 : Int32))) ∧ Fld Z h a12 cC21 "size" "I" (VI 0) ∧ Fld Z h a12 cC21 "elementData" cC1 (VR a23) ∧ Exa Z h a23 cC1 ∧ Arv Z h a23 k26 (.object "java/lang/Object") 2 [.null, .null] (.null) ∧ Exa Z h a27 cC18 ∧ Fld Z h a27 cC18 "mode" cC3 (VR a54) ∧ Fld Z h a27 cC18 "transaction" cC10 (VR a58) ∧ Fld Z h a27 cC18 "granted" "Z" (VI 1) ∧ Fld Z h a27 cC18 "row" cC19 (VR a1) ∧ Fld Z h a27 cC18 "first" "Z" (VI 1)) := by
  refine own_ent hw (plainFor_of_name pn2) #[SR a1, SR a2, SU] (fun _ => rfl) fun Q k => ?_
  refine jLa d25_0 rfl (jgF 66 f3 d25_1 (jLa d25_4 rfl (jac 8 d25_5 (decide_eq_true rfl) (jLa d25_8 rfl (jkN d25_9 (jpFN 66 67 4 f3 f4 f5 d25_10 fun h6 W6 F6 => ?_))))))
  have F7 := f4.wr W6
  refine jLa d25_13 rfl (jkN d25_14 (jpFN 418 419 4 (fS f8 W6 (lA hw 419) (lA hw 67)) F7 f5 d25_15 fun h10 W10 F10 => ?_))
  have F11 := F7.wr W10
  have F14 := fS (fS f13 W6 (lA hw 69) (lA hw 67)) W10 (lA hw 69) (lA hw 419)
  have F16 := (f15.wr W6).wr W10
  have F20 := fW (fW f18 W6 f19) W10 f19
  have F22 := fW (fW f21 W6 f19) W10 f19
  have F25 := fW (fW f24 W6 f19) W10 f19
  have F30 := (f28.other W6 f29).other W10 f29
  have F32 := (f31.wr W6).wr W10
  have F35 := fW (fW f33 W6 f34) W10 f34
  refine jLa d25_18 rfl (jLa d25_19 rfl (jcP 0 82 4 84 83 5 85 (rm11_8 hw F14 F16 F20 F22 F25 F30 F32 F35) F11 pd6 d25_20 rfl ?_))
  rintro _ h36 ⟨rfl, K36⟩
  have F37 := F11.keep K36
  refine jnta d25_23 #[SR a1, SR a2, SN] rfl (jnLa d25_24 rfl (jzY 39 d25_25 (jLa d25_39 rfl (jcP 0 237 4 239 238 5 240 (rm31_5 hw (F14.keep K36 nin0) (F16.keep K36) (F22.keep K36 nin0) (F25.keep K36 nin0) (((f42.wr W6).wr W10).keep K36) f45 (F30.keep K36 nin0) (F32.keep K36) f49 (F35.keep K36 nin0) F37 f52 ((fS F6 W10 (lA hw 67) (lA hw 419)).keep K36 nin0) ((fW (fW f55 W6 f34) W10 f34).keep K36 nin0) f57 ((fW (fW f59 W6 f34) W10 f34).keep K36 nin0) (F20.keep K36 nin0) f5 f19 f29 f62 f73 f74 f34 f63 f64 f75 ((fS (fS f66 W6 (lB hw 21) (lA hw 67)) W10 (lB hw 21) (lA hw 419)).keep K36 nin0) (F10.keep K36 nin0) ((fW (fW f69 W6 f34) W10 f34).keep K36 nin0) ((fW (fW f71 W6 f34) W10 f34).keep K36 nin0)) F37 pd5 d25_40 rfl ?_))))
  rintro _ h76 ⟨rfl, K76, o0_76, o1_76, o2_76, o3_76, o4_76, o5_76, o6_76, o7_76, o8_76, o9_76, o10_76, o11_76, o12_76, o13_76, o14_76, o15_76, o16_76⟩
  exact jrZ d25_43 (k _ _ ⟨rfl, (((((Keep.refl h0 [a1, a12, a23, a27]).wr W6 (mI 0)).wr W10 (mI 0)).trans K36 all0).trans K76 (allS (mI 0) (allS (mI 1) (allS (mI 2) (allS (mI 3) all0))))), o0_76, o1_76, o2_76, o3_76, o4_76, o5_76, o6_76, o7_76, o8_76, o9_76, o10_76, o11_76, o12_76, o13_76, o14_76, o15_76, o16_76⟩)
set_option maxRecDepth 65536 in
set_option maxHeartbeats 40000000 in
theorem tl89 {D0_ D1_ D2_ D3_ D4_ D5_ D6_ D7_ D8_ : Slot} {A10_ A11_ A12_ : Addr} {D14_ D15_ D16_ D17_ : Slot} {A17_ : Addr} {P18_ : Int32} {A19_ : Addr} {KK20_ : ClassId} {A21_ A22_ A23_ A24_ A25_ A26_ : Addr} (hw : HW a0 Z) (fm1_ : Exa Z h0 A10_ cC8) (fm2_ : Fld Z h0 A10_ cC8 "exclusive" cC10 (VR A11_)) (fm3_ : Fld Z h0 A10_ cC8 "version" cC1 (.null)) (fm4_ : Fld Z h0 A10_ cC8 "others" cC11 (VR A17_)) (fm5_ : Exa Z h0 A17_ cC21) (fm6_ : Fld Z h0 A17_ cC22 "modCount" "I" (VI P18_)) (fm7_ : A17_ ≠ A10_) (fm8_ : Fld Z h0 A17_ cC21 "size" "I" (VI 1)) (fm9_ : Fld Z h0 A17_ cC21 "elementData" cC1 (VR A19_)) (fm10_ : Arv Z h0 A19_ KK20_ (.object "java/lang/Object") 2 [VR A21_, .null] (.null)) (fm11_ : A19_ ≠ A10_) (fm12_ : Exa Z h0 A21_ cC18) (fm13_ : Fld Z h0 A21_ cC18 "granted" "Z" (VI 0)) (fm14_ : A21_ ≠ A10_) (fm15_ : Exa Z h0 A19_ cC1) (fm16_ : own_Mir Z cC1 A22_) (fm17_ : Sta Z Z.heap cC34 "EMPTY" cC9 (VR A23_)) (fm18_ : Sta Z Z.heap cC21 "DEFAULTCAPACITY_EMPTY_ELEMENTDATA" cC1 (VR A24_)) (fm19_ : Fld Z h0 A21_ cC18 "mode" cC3 (VR A25_)) (fm20_ : Sta Z Z.heap cC2 "EXCLUSIVE" cC3 (VR A25_)) (fm21_ : Z.heap.size ≤ A10_) (fm22_ : Fld Z h0 A21_ cC18 "transaction" cC10 (VR A12_)) (fm23_ : A19_ ≠ A17_) (fm24_ : A21_ ≠ A19_) (fm25_ : A21_ ≠ A17_) (fm26_ : Fld Z h0 A10_ cC8 "key" cC9 (VR A26_)) (fm27_ : Fld Z h0 A21_ cC18 "row" cC19 (VR A10_)) (fm28_ : Fld Z h0 A21_ cC18 "first" "Z" (VI 1)) (fm29_ : Z.heap.size ≤ A17_) (fm30_ : Z.heap.size ≤ A19_) (fm31_ : Z.heap.size ≤ A21_) :
    own_T l Z a0 A h0 21 102 303 #[D0_, D1_, D2_, D3_, D4_, D5_, D6_, D7_, D8_, SR A10_, SR A11_, SR A12_, SI 1, SI 0, D14_, D15_, D16_, D17_, SI 0, SI 0, SU] := by
  refine jLA at_303 rfl (jLA at_305 rfl (jcV 0 181 182 184 183 5 185 (nfS hw 184) (rm25_12 hw fm2_ fm1_ fm21_ fm3_ fm4_ fm5_ fm6_ fm7_ fm8_ fm9_ fm10_ fm11_ fm12_ fm13_ fm14_ fm15_ fm16_ fm17_ fm18_ fm19_ fm20_ fm22_ fm23_ fm24_ fm25_ fm26_ fm27_ fm28_ fm29_ fm30_ fm31_) fm1_ pd7 at_307 rfl ?_))
  rintro _ h1 ⟨rfl, K1, o0_1, o1_1, o2_1, o3_1, o4_1, o5_1, o6_1, o7_1, o8_1, o9_1, o10_1, o11_1, o12_1, o13_1, o14_1, o15_1, o16_1⟩
  refine jpO at_310 rfl (jLA at_311 rfl (jLA at_313 rfl (jcV 0 181 182 184 183 5 185 (nfS hw 184) (rm25_8 hw o2_1 o0_1 fm21_ o4_1 o1_1 o3_1) o0_1 pd7 at_315 rfl ?_)))
  rintro _ h2 ⟨rfl, K2, o0_2, o1_2, o2_2, o3_2, o4_2⟩
  exact jpO at_318 rfl (own_mono (tl16 hw o1_2 o0_2 o3_2))
set_option maxRecDepth 65536 in
set_option maxHeartbeats 40000000 in
theorem tl88 {D0_ D1_ D2_ D3_ D4_ D5_ D6_ : Slot} {G7_ : Int32} {D8_ : Slot} {A10_ A11_ A12_ : Addr} {D14_ D16_ : Slot} {A15_ : Addr} {P16_ : Int32} {A17_ : Addr} {KK18_ : ClassId} {A19_ A20_ A21_ A22_ A23_ A24_ : Addr} (hw : HW a0 Z) (fm1_ : Exa Z h0 A10_ cC8) (fm2_ : Fld Z h0 A10_ cC8 "exclusive" cC10 (VR A11_)) (fm3_ : G7_ = (0 : Int32)) (fm4_ : Fld Z h0 A10_ cC8 "version" cC1 (.null)) (fm5_ : Fld Z h0 A10_ cC8 "others" cC11 (VR A15_)) (fm6_ : Exa Z h0 A15_ cC21) (fm7_ : Fld Z h0 A15_ cC22 "modCount" "I" (VI P16_)) (fm8_ : A15_ ≠ A10_) (fm9_ : Fld Z h0 A15_ cC21 "size" "I" (VI 1)) (fm10_ : Fld Z h0 A15_ cC21 "elementData" cC1 (VR A17_)) (fm11_ : Arv Z h0 A17_ KK18_ (.object "java/lang/Object") 2 [VR A19_, .null] (.null)) (fm12_ : A17_ ≠ A10_) (fm13_ : Exa Z h0 A19_ cC18) (fm14_ : Fld Z h0 A19_ cC18 "granted" "Z" (VI 0)) (fm15_ : A19_ ≠ A10_) (fm16_ : Exa Z h0 A17_ cC1) (fm17_ : own_Mir Z cC1 A20_) (fm18_ : Sta Z Z.heap cC34 "EMPTY" cC9 (VR A21_)) (fm19_ : Sta Z Z.heap cC21 "DEFAULTCAPACITY_EMPTY_ELEMENTDATA" cC1 (VR A22_)) (fm20_ : Fld Z h0 A19_ cC18 "mode" cC3 (VR A23_)) (fm21_ : Sta Z Z.heap cC2 "EXCLUSIVE" cC3 (VR A23_)) (fm22_ : Z.heap.size ≤ A10_) (fm23_ : Fld Z h0 A19_ cC18 "transaction" cC10 (VR A12_)) (fm24_ : A17_ ≠ A15_) (fm25_ : A19_ ≠ A17_) (fm26_ : A19_ ≠ A15_) (fm27_ : Fld Z h0 A10_ cC8 "key" cC9 (VR A24_)) (fm28_ : Fld Z h0 A19_ cC18 "row" cC19 (VR A10_)) (fm29_ : Fld Z h0 A19_ cC18 "first" "Z" (VI 1)) (fm30_ : Z.heap.size ≤ A15_) (fm31_ : Z.heap.size ≤ A17_) (fm32_ : Z.heap.size ≤ A19_) :
    own_T l Z a0 A h0 21 102 274 #[D0_, D1_, D2_, D3_, D4_, D5_, D6_, SI G7_, D8_, SR A10_, SR A11_, SR A12_, SI 1, SI 0, D14_, SI 1, D16_, SI 0, SU, SU, SU] := by
  refine jLA at_274 rfl (jcV 0 61 62 64 63 5 65 (nfS hw 64) (rm8_3 hw fm2_) fm1_ pd5 at_276 rfl ?_)
  rintro _ _ ⟨rfl, rfl⟩
  exact jtI at_279 #[D0_, D1_, D2_, D3_, D4_, D5_, D6_, SI G7_, D8_, SR A10_, SR A11_, SR A12_, SI 1, SI 0, D14_, SI 1, D16_, SI 0, SI 0, SU, SU] rfl (jLI at_281 rfl (jineN at_283 (by decide) (jLI at_286 rfl (jieqY 300 at_288 fm3_ (jkI 0 at_300 rfl (jtI at_301 #[D0_, D1_, D2_, D3_, D4_, D5_, D6_, SI G7_, D8_, SR A10_, SR A11_, SR A12_, SI 1, SI 0, D14_, SI 1, D16_, SI 0, SI 0, SI 0, SU] rfl (own_mono (tl89 hw fm1_ fm2_ fm4_ fm5_ fm6_ fm7_ fm8_ fm9_ fm10_ fm11_ fm12_ fm13_ fm14_ fm15_ fm16_ fm17_ fm18_ fm19_ fm20_ fm21_ fm22_ fm23_ fm24_ fm25_ fm26_ fm27_ fm28_ fm29_ fm30_ fm31_ fm32_))))))))
set_option maxRecDepth 65536 in
set_option maxHeartbeats 40000000 in
theorem tl87 {D0_ D1_ D2_ D3_ D4_ D5_ D6_ : Slot} {G7_ : Int32} {D8_ : Slot} {A10_ A11_ A12_ A13_ : Addr} {D16_ : Slot} {A15_ : Addr} {P16_ : Int32} {A17_ : Addr} {KK18_ : ClassId} {A19_ A20_ A21_ : Addr} {KK22_ : ClassId} {A23_ A24_ : Addr} (hw : HW a0 Z) (fm1_ : Exa Z h0 A10_ cC8) (fm2_ : Fld Z h0 A10_ cC8 "exclusive" cC10 (VR A11_)) (fm3_ : A11_ ≠ A12_) (fm4_ : Fld Z h0 A10_ cC8 "others" cC11 (VR A15_)) (fm5_ : Exa Z h0 A15_ cC21) (fm6_ : Fld Z h0 A15_ cC22 "modCount" "I" (VI P16_)) (fm7_ : Fld Z h0 A15_ cC21 "size" "I" (VI 1)) (fm8_ : Fld Z h0 A15_ cC21 "elementData" cC1 (VR A17_)) (fm9_ : Arv Z h0 A17_ KK18_ (.object "java/lang/Object") 2 [VR A13_, .null] (.null)) (fm10_ : Exa Z h0 A13_ cC18) (fm11_ : Fld Z h0 A13_ cC18 "granted" "Z" (VI 0)) (fm12_ : Exa Z h0 A17_ cC1) (fm13_ : own_Mir Z cC1 A19_) (fm14_ : Sta Z Z.heap cC34 "EMPTY" cC9 (VR A20_)) (fm15_ : Sta Z Z.heap cC21 "DEFAULTCAPACITY_EMPTY_ELEMENTDATA" cC1 (VR A21_)) (fm16_ : Arv Z h0 A21_ KK22_ (.object "java/lang/Object") 0 [] (.null)) (fm17_ : Exa Z h0 A11_ cC15) (fm18_ : Fld Z h0 A10_ cC8 "version" cC1 (.null)) (fm19_ : A15_ ≠ A10_) (fm20_ : A17_ ≠ A10_) (fm21_ : A13_ ≠ A10_) (fm22_ : Fld Z h0 A13_ cC18 "mode" cC3 (VR A23_)) (fm23_ : Sta Z Z.heap cC2 "EXCLUSIVE" cC3 (VR A23_)) (fm24_ : Z.heap.size ≤ A10_) (fm25_ : Fld Z h0 A13_ cC18 "transaction" cC10 (VR A12_)) (fm26_ : A17_ ≠ A15_) (fm27_ : A13_ ≠ A17_) (fm28_ : A13_ ≠ A15_) (fm29_ : Fld Z h0 A10_ cC8 "key" cC9 (VR A24_)) (fm30_ : Fld Z h0 A13_ cC18 "row" cC19 (VR A10_)) (fm31_ : Fld Z h0 A13_ cC18 "first" "Z" (VI 1)) (fm32_ : Z.heap.size ≤ A15_) (fm33_ : Z.heap.size ≤ A17_) (fm34_ : Z.heap.size ≤ A13_) (fm35_ : A12_ ≠ A11_) :
    own_T l Z a0 A h0 15 77 234 #[D0_, D1_, D2_, D3_, D4_, D5_, D6_, SI G7_, D8_, SR A10_, SR A11_, SR A12_, SI 1, SI 0, SR A13_, SI 1, D16_, SI 0, SU, SU, SU] := by
  by_cases hm0 : G7_ = (0 : Int32)
  ·
    refine jLI at_234 rfl (jieqY 250 at_236 (by decide) (jLI at_250 rfl (jieqY 266 at_252 hm0 (jLA at_266 rfl (jLA at_268 rfl (jcV 0 181 182 184 183 5 185 (nfS hw 184) (rm25_10 hw fm2_ fm3_ fm1_ fm4_ fm5_ fm6_ fm7_ fm8_ fm9_ fm10_ fm11_ fm12_ fm13_ fm14_ fm15_ fm16_ fm17_) fm1_ pd7 at_270 rfl ?_))))))
    rintro _ h1 ⟨rfl, K1⟩
    exact jpO at_273 rfl (own_mono (tl88 hw (fm1_.keep K1) (fm2_.keep K1 nin0) hm0 (fm18_.keep K1 nin0) (fm4_.keep K1 nin0) (fm5_.keep K1) (fm6_.keep K1 nin0) fm19_ (fm7_.keep K1 nin0) (fm8_.keep K1 nin0) (fm9_.keep K1 nin0) fm20_ (fm10_.keep K1) (fm11_.keep K1 nin0) fm21_ (fm12_.keep K1) fm13_ fm14_ fm15_ (fm22_.keep K1 nin0) fm23_ fm24_ (fm25_.keep K1 nin0) fm26_ fm27_ fm28_ (fm29_.keep K1 nin0) (fm30_.keep K1 nin0) (fm31_.keep K1 nin0) fm32_ fm33_ fm34_))
  ·
    refine jLI at_234 rfl (jieqY 250 at_236 (by decide) (jLI at_250 rfl (jieqN at_252 hm0 (jLA at_255 rfl (jLA at_257 rfl (jcV 0 181 182 184 183 5 185 (nfS hw 184) (rm25_12 hw fm2_ fm1_ fm24_ fm18_ fm4_ fm5_ fm6_ fm19_ fm7_ fm8_ fm9_ fm20_ fm10_ fm11_ fm21_ fm12_ fm13_ fm14_ fm15_ fm22_ fm23_ fm25_ fm26_ fm27_ fm28_ fm29_ fm30_ fm31_ fm32_ fm33_ fm34_) fm1_ pd7 at_259 rfl ?_))))))
    rintro _ h1 ⟨rfl, K1, o0_1, o1_1, o2_1, o3_1, o4_1, o5_1, o6_1, o7_1, o8_1, o9_1, o10_1, o11_1, o12_1, o13_1, o14_1, o15_1, o16_1⟩
    exact jpO at_262 rfl (jgo 274 at_263 (own_mono (tl47 hw o0_1 o2_1 hm0 fm35_ o1_1 o4_1 o3_1 fm24_)))
set_option maxRecDepth 65536 in
set_option maxHeartbeats 40000000 in
theorem tl86 {D0_ D1_ D2_ D3_ D4_ D5_ D6_ : Slot} {G7_ G8_ : Int32} {A10_ A11_ A12_ A13_ A14_ : Addr} {P15_ : Int32} {A16_ : Addr} {KK17_ : ClassId} {A18_ A19_ A20_ : Addr} {KK21_ : ClassId} {A22_ A23_ A24_ A25_ : Addr} {KK26_ : ClassId} (hw : HW a0 Z) (fm1_ : Exa Z h0 A10_ cC8) (fm2_ : Fld Z h0 A10_ cC8 "exclusive" cC10 (VR A11_)) (fm3_ : A11_ ≠ A12_) (fm4_ : Fld Z h0 A10_ cC8 "others" cC11 (VR A14_)) (fm5_ : Exa Z h0 A14_ cC21) (fm6_ : Fld Z h0 A14_ cC22 "modCount" "I" (VI P15_)) (fm7_ : Fld Z h0 A14_ cC21 "size" "I" (VI 1)) (fm8_ : Fld Z h0 A14_ cC21 "elementData" cC1 (VR A16_)) (fm9_ : Arv Z h0 A16_ KK17_ (.object "java/lang/Object") 2 [VR A13_, .null] (.null)) (fm10_ : Exa Z h0 A13_ cC18) (fm11_ : Fld Z h0 A13_ cC18 "granted" "Z" (VI 0)) (fm12_ : Exa Z h0 A16_ cC1) (fm13_ : own_Mir Z cC1 A18_) (fm14_ : Sta Z Z.heap cC34 "EMPTY" cC9 (VR A19_)) (fm15_ : Sta Z Z.heap cC21 "DEFAULTCAPACITY_EMPTY_ELEMENTDATA" cC1 (VR A20_)) (fm16_ : Arv Z h0 A20_ KK21_ (.object "java/lang/Object") 0 [] (.null)) (fm17_ : Exa Z h0 A11_ cC15) (fm18_ : Fld Z h0 A10_ cC8 "version" cC1 (.null)) (fm19_ : A14_ ≠ A10_) (fm20_ : A16_ ≠ A10_) (fm21_ : A13_ ≠ A10_) (fm22_ : Fld Z h0 A13_ cC18 "mode" cC3 (VR A22_)) (fm23_ : Sta Z Z.heap cC2 "EXCLUSIVE" cC3 (VR A22_)) (fm24_ : Z.heap.size ≤ A10_) (fm25_ : Fld Z h0 A13_ cC18 "transaction" cC10 (VR A12_)) (fm26_ : A16_ ≠ A14_) (fm27_ : A13_ ≠ A16_) (fm28_ : A13_ ≠ A14_) (fm29_ : Fld Z h0 A10_ cC8 "key" cC9 (VR A23_)) (fm30_ : Fld Z h0 A13_ cC18 "row" cC19 (VR A10_)) (fm31_ : Fld Z h0 A13_ cC18 "first" "Z" (VI 1)) (fm32_ : Z.heap.size ≤ A14_) (fm33_ : Z.heap.size ≤ A16_) (fm34_ : Z.heap.size ≤ A13_) (fm35_ : A10_ ≠ A16_) (fm36_ : A10_ ≠ A14_) (fm37_ : Sta Z Z.heap cC34 "EMPTY_LIST" cC36 (VR A24_)) (fm38_ : Exa Z h0 A24_ cC0) (fm39_ : Fld Z h0 A24_ cC0 "elements" cC1 (VR A25_)) (fm40_ : A24_ ≠ A16_) (fm41_ : A24_ ≠ A14_) (fm42_ : Arv Z h0 A25_ KK26_ (.object "java/lang/Object") 0 [] (.null)) (fm43_ : A25_ ≠ A16_) (fm44_ : A25_ ≠ A14_) :
    own_T l Z a0 A h0 15 77 217 #[D0_, D1_, D2_, D3_, D4_, D5_, D6_, SI G7_, SI G8_, SR A10_, SR A11_, SR A12_, SI 1, SI 0, SR A13_, SI 1, SI 1, SU, SU, SU, SU] := by
  by_cases hm0 : G8_ = (0 : Int32)
  ·
    exact jLI at_217 rfl (jieqN at_219 (by decide) (jLI at_222 rfl (jieqY 231 at_224 hm0 (jkI 0 at_231 rfl (jtI at_232 #[D0_, D1_, D2_, D3_, D4_, D5_, D6_, SI G7_, SI G8_, SR A10_, SR A11_, SR A12_, SI 1, SI 0, SR A13_, SI 1, SI 1, SI 0, SU, SU, SU] rfl (own_mono (tl87 hw fm1_ fm2_ fm3_ fm4_ fm5_ fm6_ fm7_ fm8_ fm9_ fm10_ fm11_ fm12_ fm13_ fm14_ fm15_ fm16_ fm17_ fm18_ fm19_ fm20_ fm21_ fm22_ fm23_ fm24_ fm25_ fm26_ fm27_ fm28_ fm29_ fm30_ fm31_ fm32_ fm33_ fm34_ fm3_.symm)))))))
  ·
    exact jLI at_217 rfl (jieqN at_219 (by decide) (jLI at_222 rfl (jieqN at_224 hm0 (jkI 1 at_227 rfl (jgo 232 at_228 (jtI at_232 #[D0_, D1_, D2_, D3_, D4_, D5_, D6_, SI G7_, SI G8_, SR A10_, SR A11_, SR A12_, SI 1, SI 0, SR A13_, SI 1, SI 1, SI 1, SU, SU, SU] rfl (own_mono (tl76 hw fm1_ fm4_ fm5_ fm8_ fm7_ fm9_ fm10_ fm6_ fm26_ fm12_ fm32_ fm33_ fm35_ fm36_ fm37_ fm38_ fm39_ fm40_ fm41_ fm42_ fm43_ fm44_ fm2_ fm29_ fm18_ fm24_))))))))
set_option maxRecDepth 65536 in
set_option maxHeartbeats 40000000 in
theorem tl85 {D0_ D1_ D2_ : Slot} {A4_ : Addr} {D4_ D5_ : Slot} {G7_ G8_ : Int32} {A9_ A10_ A11_ A12_ A13_ A14_ : Addr} {P15_ : Int32} {A16_ : Addr} {KK17_ : ClassId} {A18_ A19_ A20_ : Addr} {KK21_ : ClassId} {A22_ A23_ A24_ : Addr} {KK25_ : ClassId} (hw : HW a0 Z) (fm1_ : Sta Z Z.heap cC2 "SHARED" cC3 (VR A13_)) (fm2_ : A4_ ≠ A13_) (fm3_ : Exa Z h0 A9_ cC8) (fm4_ : Fld Z h0 A9_ cC8 "exclusive" cC10 (VR A10_)) (fm5_ : A10_ ≠ A11_) (fm6_ : Fld Z h0 A9_ cC8 "others" cC11 (VR A14_)) (fm7_ : Exa Z h0 A14_ cC21) (fm8_ : Fld Z h0 A14_ cC22 "modCount" "I" (VI P15_)) (fm9_ : Fld Z h0 A14_ cC21 "size" "I" (VI 1)) (fm10_ : Fld Z h0 A14_ cC21 "elementData" cC1 (VR A16_)) (fm11_ : Arv Z h0 A16_ KK17_ (.object "java/lang/Object") 2 [VR A12_, .null] (.null)) (fm12_ : Exa Z h0 A12_ cC18) (fm13_ : Fld Z h0 A12_ cC18 "granted" "Z" (VI 0)) (fm14_ : Exa Z h0 A16_ cC1) (fm15_ : own_Mir Z cC1 A18_) (fm16_ : Sta Z Z.heap cC34 "EMPTY" cC9 (VR A19_)) (fm17_ : Sta Z Z.heap cC21 "DEFAULTCAPACITY_EMPTY_ELEMENTDATA" cC1 (VR A20_)) (fm18_ : Arv Z h0 A20_ KK21_ (.object "java/lang/Object") 0 [] (.null)) (fm19_ : Exa Z h0 A10_ cC15) (fm20_ : Fld Z h0 A9_ cC8 "version" cC1 (.null)) (fm21_ : A14_ ≠ A9_) (fm22_ : A16_ ≠ A9_) (fm23_ : A12_ ≠ A9_) (fm24_ : Fld Z h0 A12_ cC18 "mode" cC3 (VR A4_)) (fm25_ : Sta Z Z.heap cC2 "EXCLUSIVE" cC3 (VR A4_)) (fm26_ : Z.heap.size ≤ A9_) (fm27_ : Fld Z h0 A12_ cC18 "transaction" cC10 (VR A11_)) (fm28_ : A16_ ≠ A14_) (fm29_ : A12_ ≠ A16_) (fm30_ : A12_ ≠ A14_) (fm31_ : Fld Z h0 A9_ cC8 "key" cC9 (VR A22_)) (fm32_ : Fld Z h0 A12_ cC18 "row" cC19 (VR A9_)) (fm33_ : Fld Z h0 A12_ cC18 "first" "Z" (VI 1)) (fm34_ : Z.heap.size ≤ A14_) (fm35_ : Z.heap.size ≤ A16_) (fm36_ : Z.heap.size ≤ A12_) (fm37_ : Sta Z Z.heap cC34 "EMPTY_LIST" cC36 (VR A23_)) (fm38_ : Exa Z h0 A23_ cC0) (fm39_ : Fld Z h0 A23_ cC0 "elements" cC1 (VR A24_)) (fm40_ : A23_ ≠ A16_) (fm41_ : A23_ ≠ A14_) (fm42_ : Arv Z h0 A24_ KK25_ (.object "java/lang/Object") 0 [] (.null)) (fm43_ : A24_ ≠ A16_) (fm44_ : A24_ ≠ A14_) :
    own_T l Z a0 A h0 15 77 190 #[D0_, D1_, D2_, SR A4_, D4_, D5_, SR A4_, SI G7_, SI G8_, SR A9_, SR A10_, SR A11_, SI 1, SI 0, SR A12_, SI 1, SU, SU, SU, SU, SU] := by
  exact jLI at_190 rfl (jieqN at_192 (by decide) (jLa at_195 rfl (jgS 0 fm1_ at_196 (jac 210 at_199 (own_dn fm2_) (jkI 1 at_210 rfl (jgo 215 at_211 (jtI at_215 #[D0_, D1_, D2_, SR A4_, D4_, D5_, SR A4_, SI G7_, SI G8_, SR A9_, SR A10_, SR A11_, SI 1, SI 0, SR A12_, SI 1, SI 1, SU, SU, SU, SU] rfl (own_mono (tl86 hw fm3_ fm4_ fm5_ fm6_ fm7_ fm8_ fm9_ fm10_ fm11_ fm12_ fm13_ fm14_ fm15_ fm16_ fm17_ fm18_ fm19_ fm20_ fm21_ fm22_ fm23_ fm24_ fm25_ fm26_ fm27_ fm28_ fm29_ fm30_ fm31_ fm32_ fm33_ fm34_ fm35_ fm36_ fm22_.symm fm21_.symm fm37_ fm38_ fm39_ fm40_ fm41_ fm42_ fm43_ fm44_)))))))))
set_option maxRecDepth 65536 in
set_option maxHeartbeats 40000000 in
theorem tl84 {D0_ D1_ D2_ : Slot} {A4_ : Addr} {G4_ G5_ G7_ G8_ : Int32} {A9_ A10_ A11_ A12_ A13_ A14_ : Addr} {P15_ : Int32} {A16_ : Addr} {KK17_ : ClassId} {A18_ A19_ A20_ : Addr} {KK21_ : ClassId} {A22_ A23_ A24_ : Addr} {KK25_ : ClassId} (hw : HW a0 Z) (fm1_ : ¬ (G4_ = (0 : Int32))) (fm2_ : G5_ = (0 : Int32)) (fm3_ : Sta Z Z.heap cC2 "SHARED" cC3 (VR A13_)) (fm4_ : A4_ ≠ A13_) (fm5_ : Exa Z h0 A9_ cC8) (fm6_ : Fld Z h0 A9_ cC8 "exclusive" cC10 (VR A10_)) (fm7_ : A10_ ≠ A11_) (fm8_ : Fld Z h0 A9_ cC8 "others" cC11 (VR A14_)) (fm9_ : Exa Z h0 A14_ cC21) (fm10_ : Fld Z h0 A14_ cC22 "modCount" "I" (VI P15_)) (fm11_ : Fld Z h0 A14_ cC21 "size" "I" (VI 1)) (fm12_ : Fld Z h0 A14_ cC21 "elementData" cC1 (VR A16_)) (fm13_ : Arv Z h0 A16_ KK17_ (.object "java/lang/Object") 2 [VR A12_, .null] (.null)) (fm14_ : Exa Z h0 A12_ cC18) (fm15_ : Fld Z h0 A12_ cC18 "granted" "Z" (VI 0)) (fm16_ : Exa Z h0 A16_ cC1) (fm17_ : own_Mir Z cC1 A18_) (fm18_ : Sta Z Z.heap cC34 "EMPTY" cC9 (VR A19_)) (fm19_ : Sta Z Z.heap cC21 "DEFAULTCAPACITY_EMPTY_ELEMENTDATA" cC1 (VR A20_)) (fm20_ : Arv Z h0 A20_ KK21_ (.object "java/lang/Object") 0 [] (.null)) (fm21_ : Exa Z h0 A10_ cC15) (fm22_ : Fld Z h0 A9_ cC8 "version" cC1 (.null)) (fm23_ : A14_ ≠ A9_) (fm24_ : A16_ ≠ A9_) (fm25_ : A12_ ≠ A9_) (fm26_ : Fld Z h0 A12_ cC18 "mode" cC3 (VR A4_)) (fm27_ : Sta Z Z.heap cC2 "EXCLUSIVE" cC3 (VR A4_)) (fm28_ : Z.heap.size ≤ A9_) (fm29_ : Fld Z h0 A12_ cC18 "transaction" cC10 (VR A11_)) (fm30_ : A16_ ≠ A14_) (fm31_ : A12_ ≠ A16_) (fm32_ : A12_ ≠ A14_) (fm33_ : Fld Z h0 A9_ cC8 "key" cC9 (VR A22_)) (fm34_ : Fld Z h0 A12_ cC18 "row" cC19 (VR A9_)) (fm35_ : Fld Z h0 A12_ cC18 "first" "Z" (VI 1)) (fm36_ : Z.heap.size ≤ A14_) (fm37_ : Z.heap.size ≤ A16_) (fm38_ : Z.heap.size ≤ A12_) (fm39_ : Sta Z Z.heap cC34 "EMPTY_LIST" cC36 (VR A23_)) (fm40_ : Exa Z h0 A23_ cC0) (fm41_ : Fld Z h0 A23_ cC0 "elements" cC1 (VR A24_)) (fm42_ : A23_ ≠ A16_) (fm43_ : A23_ ≠ A14_) (fm44_ : Arv Z h0 A24_ KK25_ (.object "java/lang/Object") 0 [] (.null)) (fm45_ : A24_ ≠ A16_) (fm46_ : A24_ ≠ A14_) :
    own_T l Z a0 A h0 15 77 173 #[D0_, D1_, D2_, SR A4_, SI G4_, SI G5_, SR A4_, SI G7_, SI G8_, SR A9_, SR A10_, SR A11_, SI 1, SI 0, SR A12_, SU, SU, SU, SU, SU, SU] := by
  exact jLI at_173 rfl (jieqN at_175 fm1_ (jLI at_178 rfl (jineN at_180 fm2_ (jkI 1 at_183 rfl (jgo 188 at_184 (jtI at_188 #[D0_, D1_, D2_, SR A4_, SI G4_, SI G5_, SR A4_, SI G7_, SI G8_, SR A9_, SR A10_, SR A11_, SI 1, SI 0, SR A12_, SI 1, SU, SU, SU, SU, SU] rfl (own_mono (tl85 hw fm3_ fm4_ fm5_ fm6_ fm7_ fm8_ fm9_ fm10_ fm11_ fm12_ fm13_ fm14_ fm15_ fm16_ fm17_ fm18_ fm19_ fm20_ fm21_ fm22_ fm23_ fm24_ fm25_ fm26_ fm27_ fm28_ fm29_ fm30_ fm31_ fm32_ fm33_ fm34_ fm35_ fm36_ fm37_ fm38_ fm39_ fm40_ fm41_ fm42_ fm43_ fm44_ fm45_ fm46_))))))))
set_option maxRecDepth 65536 in
set_option maxHeartbeats 40000000 in
theorem tl83 {D0_ D1_ D2_ : Slot} {A4_ : Addr} {G4_ G5_ G7_ G8_ : Int32} {A9_ A10_ A11_ A12_ A13_ A14_ : Addr} {KK15_ : ClassId} {A16_ A17_ A18_ A19_ : Addr} {KK20_ : ClassId} (hw : HW a0 Z) (fm1_ : Exa Z h0 A9_ cC8) (fm2_ : Fld Z h0 A9_ cC8 "exclusive" cC10 (VR A10_)) (fm3_ : A10_ ≠ A11_) (fm4_ : Fld Z h0 A9_ cC8 "others" cC11 (.null)) (fm5_ : Fld Z h0 A9_ cC8 "version" cC1 (.null)) (fm6_ : Fld Z h0 A9_ cC8 "key" cC9 (VR A12_)) (fm7_ : Z.heap.size ≤ A9_) (fm8_ : Sta Z Z.heap cC2 "SHARED" cC3 (VR A13_)) (fm9_ : A4_ ≠ A13_) (fm10_ : Sta Z Z.heap cC21 "DEFAULTCAPACITY_EMPTY_ELEMENTDATA" cC1 (VR A14_)) (fm11_ : Arv Z h0 A14_ KK15_ (.object "java/lang/Object") 0 [] (.null)) (fm12_ : Exa Z h0 A10_ cC15) (fm13_ : own_Mir Z cC1 A16_) (fm14_ : Sta Z Z.heap cC34 "EMPTY" cC9 (VR A17_)) (fm15_ : A14_ ≠ A9_) (fm16_ : Sta Z Z.heap cC2 "EXCLUSIVE" cC3 (VR A4_)) (fm17_ : Sta Z Z.heap cC34 "EMPTY_LIST" cC36 (VR A18_)) (fm18_ : Exa Z h0 A18_ cC0) (fm19_ : Fld Z h0 A18_ cC0 "elements" cC1 (VR A19_)) (fm20_ : A18_ ≠ A9_) (fm21_ : Arv Z h0 A19_ KK20_ (.object "java/lang/Object") 0 [] (.null)) (fm22_ : A19_ ≠ A9_) :
    own_T l Z a0 A h0 10 54 147 #[D0_, D1_, D2_, SR A4_, SI G4_, SI G5_, SR A4_, SI G7_, SI G8_, SR A9_, SR A10_, SR A11_, SI 1, SI 0, SN, SU, SU, SU, SU, SU, SU] := by
  refine own_z fun Z0 => ?_
  by_cases hm0 : G4_ = (0 : Int32)
  ·
    exact jLI at_147 rfl (jieqY 173 at_149 hm0 (own_mono (tl66 hw hm0 fm1_ fm2_ fm3_ fm4_ fm5_ fm6_ fm7_)))
  ·
    by_cases hm1 : G5_ = (0 : Int32)
    ·
      refine jLI at_147 rfl (jieqN at_149 hm0 (jLA at_152 rfl (jLI at_154 rfl (jieqY 164 at_156 hm1 (jLA at_164 rfl (jLA at_166 rfl (jcV 0 70 71 73 72 5 74 (nfS hw 73) (rm9_9 hw fm1_ fm2_ fm3_ fm4_ fm8_ fm9_ fm10_ fm11_ fm12_ fm6_ fm5_ fm7_) fm1_ pd16 at_168 rfl ?_)))))))
      rintro _ h1 ⟨b4_1, b3_45_1, b9_7_45_1, k9_7_45_1, rfl, K1, lob4_1, lob3_45_1, lob9_7_45_1, neb4b3_45_1, neb4b9_7_45_1, neb3_45b9_7_45_1, ovk9_7_45_1, o0_1, o1_1, o2_1, o3_1, o4_1, o5_1, o6_1, o7_1, o8_1, o9_1, o10_1, o11_1, o12_1, o13_1, o14_1, o15_1, o16_1⟩
      exact jtA at_171 #[D0_, D1_, D2_, SR A4_, SI G4_, SI G5_, SR A4_, SI G7_, SI G8_, SR A9_, SR A10_, SR A11_, SI 1, SI 0, SR b4_1, SU, SU, SU, SU, SU, SU] rfl (own_mono (tl84 hw hm0 hm1 fm8_ fm9_ o0_1 o2_1 fm3_ o1_1 o11_1 o13_1 o12_1 o14_1 o16_1 o5_1 o10_1 o15_1 fm13_ fm14_ fm10_ (fm11_.keep K1 (ninS fm15_ nin0)) (fm12_.keep K1) o4_1 (own_lo fm1_.lt lob3_45_1).symm (own_lo fm1_.lt lob9_7_45_1).symm (own_lo fm1_.lt lob4_1).symm o8_1 fm16_ fm7_ o7_1 neb3_45b9_7_45_1.symm neb4b9_7_45_1 neb4b3_45_1 o3_1 o6_1 o9_1 (Nat.le_trans Z0 lob3_45_1) (Nat.le_trans Z0 lob9_7_45_1) (Nat.le_trans Z0 lob4_1) fm17_ (fm18_.keep K1) (fm19_.keep K1 (ninS fm20_ nin0)) (own_lo fm18_.lt lob9_7_45_1) (own_lo fm18_.lt lob3_45_1) (fm21_.keep K1 (ninS fm22_ nin0)) (own_lo fm21_.lt lob9_7_45_1) (own_lo fm21_.lt lob3_45_1)))
    ·
      refine jLI at_147 rfl (jieqN at_149 hm0 (jLA at_152 rfl (jLI at_154 rfl (jieqN at_156 hm1 (jLA at_159 rfl (jgo 166 at_161 (jLA at_166 rfl (jcV 0 70 71 73 72 5 74 (nfS hw 73) (rm9_8 hw fm1_ fm2_ fm4_) fm1_ pd16 at_168 rfl ?_))))))))
      rintro _ h1 ⟨b4_1, rfl, K1, lob4_1, o0_1, o1_1, o2_1, o3_1, o4_1, o5_1⟩
      exact jtA at_171 #[D0_, D1_, D2_, SR A4_, SI G4_, SI G5_, SR A4_, SI G7_, SI G8_, SR A9_, SR A10_, SR A11_, SI 1, SI 0, SR b4_1, SU, SU, SU, SU, SU, SU] rfl (own_mono (tl51 hw hm0 hm1 (fm1_.keep K1) (fm2_.keep K1 nin0) fm3_ (fm4_.keep K1 nin0) (fm5_.keep K1 nin0) (fm6_.keep K1 nin0) fm7_))
set_option maxRecDepth 65536 in
set_option maxHeartbeats 40000000 in
theorem tl82 {D0_ D1_ D2_ : Slot} {A4_ : Addr} {G4_ G5_ G7_ G8_ : Int32} {A9_ A10_ A11_ A12_ A13_ A14_ : Addr} {KK15_ : ClassId} {A16_ A17_ A18_ A19_ : Addr} {KK20_ : ClassId} (hw : HW a0 Z) (fm1_ : Exa Z h0 A9_ cC8) (fm2_ : Fld Z h0 A9_ cC8 "exclusive" cC10 (.null)) (fm3_ : Fld Z h0 A9_ cC8 "others" cC11 (.null)) (fm4_ : Sta Z Z.heap cC2 "SHARED" cC3 (VR A12_)) (fm5_ : A4_ ≠ A12_) (fm6_ : Sta Z Z.heap cC21 "DEFAULTCAPACITY_EMPTY_ELEMENTDATA" cC1 (VR A13_)) (fm7_ : Sta Z Z.heap cC2 "EXCLUSIVE" cC3 (VR A4_)) (fm8_ : Fld Z h0 A9_ cC8 "key" cC9 (VR A14_)) (fm9_ : Fld Z h0 A9_ cC8 "version" cC1 (.null)) (fm10_ : Z.heap.size ≤ A9_) (fm11_ : A10_ ≠ A11_) (fm12_ : Arv Z h0 A13_ KK15_ (.object "java/lang/Object") 0 [] (.null)) (fm13_ : A13_ ≠ A9_) (fm14_ : Exa Z h0 A10_ cC15) (fm15_ : own_Mir Z cC1 A16_) (fm16_ : Sta Z Z.heap cC34 "EMPTY" cC9 (VR A17_)) (fm17_ : Sta Z Z.heap cC34 "EMPTY_LIST" cC36 (VR A18_)) (fm18_ : Exa Z h0 A18_ cC0) (fm19_ : Fld Z h0 A18_ cC0 "elements" cC1 (VR A19_)) (fm20_ : A18_ ≠ A9_) (fm21_ : Arv Z h0 A19_ KK20_ (.object "java/lang/Object") 0 [] (.null)) (fm22_ : A19_ ≠ A9_) :
    own_T l Z a0 A h0 6 41 128 #[D0_, D1_, D2_, SR A4_, SI G4_, SI G5_, SR A4_, SI G7_, SI G8_, SR A9_, SR A10_, SR A11_, SI 1, SU, SU, SU, SU, SU, SU, SU, SU] := by
  refine jLA at_128 rfl (jLA at_130 rfl (jLa at_132 rfl (jcV 0 70 71 73 72 5 74 (nfS hw 73) (rm9_6 hw fm1_ fm2_ fm3_ fm4_ fm5_ fm6_ fm7_ fm10_ fm8_ fm9_) fm1_ pd16 at_133 rfl ?_)))
  rintro _ h1 ⟨b4_1, rfl, K1, lob4_1, o0_1, o1_1, o2_1, o3_1, o4_1, o5_1, o6_1, o7_1, o8_1, o9_1, o10_1⟩
  refine jpO at_136 rfl (jLA at_137 rfl (jcV 0 61 62 64 63 5 65 (nfS hw 64) (rm8_3 hw o2_1) o0_1 pd5 at_139 rfl ?_))
  rintro _ _ ⟨rfl, rfl⟩
  exact jtI at_142 #[D0_, D1_, D2_, SR A4_, SI G4_, SI G5_, SR A4_, SI G7_, SI G8_, SR A9_, SR A10_, SR A11_, SI 1, SI 0, SU, SU, SU, SU, SU, SU, SU] rfl (jkN at_144 (jntA at_145 #[D0_, D1_, D2_, SR A4_, SI G4_, SI G5_, SR A4_, SI G7_, SI G8_, SR A9_, SR A10_, SR A11_, SI 1, SI 0, SN, SU, SU, SU, SU, SU, SU] rfl (own_mono (tl83 hw o0_1 o2_1 fm11_ o1_1 o4_1 o3_1 fm10_ fm4_ fm5_ fm6_ (fm12_.keep K1 (ninS fm13_ nin0)) (fm14_.keep K1) fm15_ fm16_ fm13_ fm7_ fm17_ (fm18_.keep K1) (fm19_.keep K1 (ninS fm20_ nin0)) fm20_ (fm21_.keep K1 (ninS fm22_ nin0)) fm22_))))
set_option maxRecDepth 65536 in
set_option maxHeartbeats 40000000 in
theorem tl81 {D0_ D1_ D2_ : Slot} {A4_ : Addr} {G4_ G5_ G7_ G8_ : Int32} {A9_ A10_ A11_ A12_ A13_ A14_ : Addr} {KK15_ : ClassId} {A16_ A17_ A18_ A19_ : Addr} {KK20_ : ClassId} (hw : HW a0 Z) (fm1_ : Exa Z h0 A9_ cC8) (fm2_ : Fld Z h0 A9_ cC8 "exclusive" cC10 (.null)) (fm3_ : Fld Z h0 A9_ cC8 "others" cC11 (.null)) (fm4_ : Sta Z Z.heap cC2 "SHARED" cC3 (VR A12_)) (fm5_ : A4_ ≠ A12_) (fm6_ : Sta Z Z.heap cC21 "DEFAULTCAPACITY_EMPTY_ELEMENTDATA" cC1 (VR A13_)) (fm7_ : Sta Z Z.heap cC2 "EXCLUSIVE" cC3 (VR A4_)) (fm8_ : Fld Z h0 A9_ cC8 "key" cC9 (VR A14_)) (fm9_ : Fld Z h0 A9_ cC8 "version" cC1 (.null)) (fm10_ : Z.heap.size ≤ A9_) (fm11_ : A10_ ≠ A11_) (fm12_ : Arv Z h0 A13_ KK15_ (.object "java/lang/Object") 0 [] (.null)) (fm13_ : A13_ ≠ A9_) (fm14_ : Exa Z h0 A10_ cC15) (fm15_ : own_Mir Z cC1 A16_) (fm16_ : Sta Z Z.heap cC34 "EMPTY" cC9 (VR A17_)) (fm17_ : Sta Z Z.heap cC34 "EMPTY_LIST" cC36 (VR A18_)) (fm18_ : Exa Z h0 A18_ cC0) (fm19_ : Fld Z h0 A18_ cC0 "elements" cC1 (VR A19_)) (fm20_ : A18_ ≠ A9_) (fm21_ : Arv Z h0 A19_ KK20_ (.object "java/lang/Object") 0 [] (.null)) (fm22_ : A19_ ≠ A9_) :
    own_T l Z a0 A h0 6 41 121 #[D0_, D1_, D2_, SR A4_, SI G4_, SI G5_, SR A4_, SI G7_, SI G8_, SR A9_, SR A10_, SR A11_, SU, SU, SU, SU, SU, SU, SU, SU, SU] := by
  refine jLA at_121 rfl (jcV 0 61 62 64 63 5 65 (nfS hw 64) (rm8_1 hw fm2_ fm3_) fm1_ pd5 at_123 rfl ?_)
  rintro _ _ ⟨rfl, rfl⟩
  exact jtI at_126 #[D0_, D1_, D2_, SR A4_, SI G4_, SI G5_, SR A4_, SI G7_, SI G8_, SR A9_, SR A10_, SR A11_, SI 1, SU, SU, SU, SU, SU, SU, SU, SU] rfl (own_mono (tl82 hw fm1_ fm2_ fm3_ fm4_ fm5_ fm6_ fm7_ fm8_ fm9_ fm10_ fm11_ fm12_ fm13_ fm14_ fm15_ fm16_ fm17_ fm18_ fm19_ fm20_ fm21_ fm22_))
set_option maxRecDepth 65536 in
set_option maxHeartbeats 40000000 in
theorem tl80 {D0_ : Slot} {PJ2_ : Int64} {A3_ : Addr} {G4_ G5_ G7_ G8_ : Int32} {A8_ A9_ A10_ : Addr} {KK11_ : ClassId} {A12_ A13_ A14_ A15_ : Addr} {KK16_ : ClassId} (hw : HW a0 Z) (fm1_ : Sta Z Z.heap cC6 "cache" cC7 (VR A8_)) (fm2_ : own_BoxLong Z A8_) (fm3_ : Sta Z Z.heap cC2 "SHARED" cC3 (VR A9_)) (fm4_ : A3_ ≠ A9_) (fm5_ : Sta Z Z.heap cC21 "DEFAULTCAPACITY_EMPTY_ELEMENTDATA" cC1 (VR A10_)) (fm6_ : Sta Z Z.heap cC2 "EXCLUSIVE" cC3 (VR A3_)) (fm7_ : Arv Z h0 A10_ KK11_ (.object "java/lang/Object") 0 [] (.null)) (fm8_ : own_Mir Z cC1 A12_) (fm9_ : Sta Z Z.heap cC34 "EMPTY" cC9 (VR A13_)) (fm10_ : Sta Z Z.heap cC34 "EMPTY_LIST" cC36 (VR A14_)) (fm11_ : Exa Z h0 A14_ cC0) (fm12_ : Fld Z h0 A14_ cC0 "elements" cC1 (VR A15_)) (fm13_ : Arv Z h0 A15_ KK16_ (.object "java/lang/Object") 0 [] (.null)) :
    own_T l Z a0 A h0 0 0 88 #[D0_, SJ PJ2_, SS, SR A3_, SI G4_, SI G5_, SR A3_, SI G7_, SI G8_, SU, SU, SU, SU, SU, SU, SU, SU, SU, SU, SU, SU] := by
  refine jnew 3 4 5 at_88 fun b1 h1 g1 u1 E1 A1 D1 => ?_
  refine jdU at_91 rfl (jLj at_92 rfl (jcS 2 6 7 8 9 (rm1_m1 hw fm1_ fm2_) pd2 at_93 rfl ?_))
  rintro _ h6 ⟨r0_6, rfl, K6, o0_6⟩
  refine jcI 1 14 15 5 16 (rm2_1 hw (A1.keep K6) ((dN D1 (lB hw 21)).keep K6 nin0) u1 ((dN D1 (lA hw 67)).keep K6 nin0) ((dN D1 (lA hw 69)).keep K6 nin0) ((dN D1 (lA hw 419)).keep K6 nin0)) pd3 at_96 rfl ?_
  rintro _ h12 ⟨rfl, K12, o0_12, o1_12, o2_12, o3_12, o4_12⟩
  refine jtA at_99 #[D0_, SJ PJ2_, SS, SR A3_, SI G4_, SI G5_, SR A3_, SI G7_, SI G8_, SR b1, SU, SU, SU, SU, SU, SU, SU, SU, SU, SU, SU] rfl (jnew 22 23 24 at_101 fun b13 h13 g13 u13 E13 A13 D13 => ?_)
  refine jdU at_104 rfl (jkN at_105 (jcI 1 25 26 24 27 (rm4_1 hw A13 (dN D13 (lB hw 56)) u13 (dJ D13 (lA hw 58)) (dN D13 (lB hw 60))) pd4 at_106 rfl ?_))
  rintro _ h17 ⟨b2_17, rfl, K17, lob2_17, o0_17, o1_17, o2_17, o3_17, o4_17, o5_17, o6_17, o7_17⟩
  refine jtA at_109 #[D0_, SJ PJ2_, SS, SR A3_, SI G4_, SI G5_, SR A3_, SI G7_, SI G8_, SR b1, SR b13, SU, SU, SU, SU, SU, SU, SU, SU, SU, SU] rfl (jnew 22 23 24 at_111 fun b18 h18 g18 u18 E18 A18 D18 => ?_)
  refine jdU at_114 rfl (jkN at_115 (jcI 1 25 26 24 27 (rm4_1 hw A18 (dN D18 (lB hw 56)) u18 (dJ D18 (lA hw 58)) (dN D18 (lB hw 60))) pd4 at_116 rfl ?_))
  rintro _ h22 ⟨b2_22, rfl, K22, lob2_22, o0_22, o1_22, o2_22, o3_22, o4_22, o5_22, o6_22, o7_22⟩
  have z26 := Nat.le_trans K6.1 K12.1
  have v24 := own_lo A1.lt (Nat.le_trans z26 g13)
  have v27 := own_lo A1.lt (Nat.le_trans (Nat.le_trans (Nat.le_trans z26 E13.1) K17.1) g18)
  have v36 := own_lo fm7_.lt g1
  have z40 := Nat.le_trans (Nat.le_trans E1.1 K6.1) K12.1
  have z43 := Nat.le_trans (Nat.le_trans z40 E13.1) K17.1
  have v47 := own_lo fm11_.lt g1
  have v51 := own_lo fm13_.lt g1
  exact jtA at_119 #[D0_, SJ PJ2_, SS, SR A3_, SI G4_, SI G5_, SR A3_, SI G7_, SI G8_, SR b1, SR b13, SR b18, SU, SU, SU, SU, SU, SU, SU, SU, SU] rfl (own_mono (tl81 hw ((((o0_12.ext E13).keep K17).ext E18).keep K22) ((((o2_12.ext E13).keep K17 (ninS v24 nin0)).ext E18).keep K22 (ninS v27 nin0)) ((((o3_12.ext E13).keep K17 (ninS v24 nin0)).ext E18).keep K22 (ninS v27 nin0)) fm3_ fm4_ fm5_ fm6_ ((((o1_12.ext E13).keep K17 (ninS v24 nin0)).ext E18).keep K22 (ninS v27 nin0)) ((((o4_12.ext E13).keep K17 (ninS v24 nin0)).ext E18).keep K22 (ninS v27 nin0)) u1 (own_lo A13.lt (Nat.le_trans K17.1 g18)) (((((((fm7_.ext E1).keep K6 nin0).keep K12 (ninS v36 nin0)).ext E13).keep K17 (ninS (own_lo fm7_.lt (Nat.le_trans z40 g13)) nin0)).ext E18).keep K22 (ninS (own_lo fm7_.lt (Nat.le_trans z43 g18)) nin0)) v36 ((o0_17.ext E18).keep K22) fm8_ fm9_ fm10_ (((((((fm11_.ext E1).keep K6).keep K12).ext E13).keep K17).ext E18).keep K22) (((((((fm12_.ext E1).keep K6 nin0).keep K12 (ninS v47 nin0)).ext E13).keep K17 (ninS (own_lo fm11_.lt (Nat.le_trans z40 g13)) nin0)).ext E18).keep K22 (ninS (own_lo fm11_.lt (Nat.le_trans z43 g18)) nin0)) v47 (((((((fm13_.ext E1).keep K6 nin0).keep K12 (ninS v51 nin0)).ext E13).keep K17 (ninS (own_lo fm13_.lt (Nat.le_trans z40 g13)) nin0)).ext E18).keep K22 (ninS (own_lo fm13_.lt (Nat.le_trans z43 g18)) nin0)) v51))
set_option maxRecDepth 65536 in
set_option maxHeartbeats 40000000 in
theorem tl79 {P1_ : Int32} {PJ2_ : Int64} {A3_ : Addr} {G4_ G5_ G7_ : Int32} {A7_ A8_ A9_ : Addr} {KK10_ : ClassId} {A11_ A12_ A13_ A14_ : Addr} {KK15_ : ClassId} (hw : HW a0 Z) (fm1_ : Sta Z Z.heap cC6 "cache" cC7 (VR A7_)) (fm2_ : own_BoxLong Z A7_) (fm3_ : Sta Z Z.heap cC2 "SHARED" cC3 (VR A8_)) (fm4_ : A3_ ≠ A8_) (fm5_ : Sta Z Z.heap cC21 "DEFAULTCAPACITY_EMPTY_ELEMENTDATA" cC1 (VR A9_)) (fm6_ : Sta Z Z.heap cC2 "EXCLUSIVE" cC3 (VR A3_)) (fm7_ : Arv Z h0 A9_ KK10_ (.object "java/lang/Object") 0 [] (.null)) (fm8_ : own_Mir Z cC1 A11_) (fm9_ : Sta Z Z.heap cC34 "EMPTY" cC9 (VR A12_)) (fm10_ : Sta Z Z.heap cC34 "EMPTY_LIST" cC36 (VR A13_)) (fm11_ : Exa Z h0 A13_ cC0) (fm12_ : Fld Z h0 A13_ cC0 "elements" cC1 (VR A14_)) (fm13_ : Arv Z h0 A14_ KK15_ (.object "java/lang/Object") 0 [] (.null)) :
    own_T l Z a0 A h0 0 0 74 #[SI P1_, SJ PJ2_, SS, SR A3_, SI G4_, SI G5_, SR A3_, SI G7_, SU, SU, SU, SU, SU, SU, SU, SU, SU, SU, SU, SU, SU] := by
  by_cases hm0 : (P1_ &&& (32 : Int32)) = (0 : Int32)
  ·
    exact jLi at_74 rfl (jkB 32 at_75 rfl (jiand at_77 (jieqY 85 at_78 hm0 (jkI 0 at_85 rfl (jtI at_86 #[SI P1_, SJ PJ2_, SS, SR A3_, SI G4_, SI G5_, SR A3_, SI G7_, SI 0, SU, SU, SU, SU, SU, SU, SU, SU, SU, SU, SU, SU] rfl (own_mono (tl80 hw fm1_ fm2_ fm3_ fm4_ fm5_ fm6_ fm7_ fm8_ fm9_ fm10_ fm11_ fm12_ fm13_)))))))
  ·
    exact jLi at_74 rfl (jkB 32 at_75 rfl (jiand at_77 (jieqN at_78 hm0 (jkI 1 at_81 rfl (jgo 86 at_82 (jtI at_86 #[SI P1_, SJ PJ2_, SS, SR A3_, SI G4_, SI G5_, SR A3_, SI G7_, SI 1, SU, SU, SU, SU, SU, SU, SU, SU, SU, SU, SU, SU] rfl (own_mono (tl80 hw fm1_ fm2_ fm3_ fm4_ fm5_ fm6_ fm7_ fm8_ fm9_ fm10_ fm11_ fm12_ fm13_))))))))
set_option maxRecDepth 65536 in
set_option maxHeartbeats 40000000 in
theorem tl78 {P1_ : Int32} {PJ2_ : Int64} {A3_ : Addr} {G4_ G5_ : Int32} {A6_ A7_ A8_ : Addr} {KK9_ : ClassId} {A10_ A11_ A12_ A13_ : Addr} {KK14_ : ClassId} (hw : HW a0 Z) (fm1_ : Sta Z Z.heap cC6 "cache" cC7 (VR A6_)) (fm2_ : own_BoxLong Z A6_) (fm3_ : Sta Z Z.heap cC2 "SHARED" cC3 (VR A7_)) (fm4_ : A3_ ≠ A7_) (fm5_ : Sta Z Z.heap cC21 "DEFAULTCAPACITY_EMPTY_ELEMENTDATA" cC1 (VR A8_)) (fm6_ : Sta Z Z.heap cC2 "EXCLUSIVE" cC3 (VR A3_)) (fm7_ : Arv Z h0 A8_ KK9_ (.object "java/lang/Object") 0 [] (.null)) (fm8_ : own_Mir Z cC1 A10_) (fm9_ : Sta Z Z.heap cC34 "EMPTY" cC9 (VR A11_)) (fm10_ : Sta Z Z.heap cC34 "EMPTY_LIST" cC36 (VR A12_)) (fm11_ : Exa Z h0 A12_ cC0) (fm12_ : Fld Z h0 A12_ cC0 "elements" cC1 (VR A13_)) (fm13_ : Arv Z h0 A13_ KK14_ (.object "java/lang/Object") 0 [] (.null)) :
    own_T l Z a0 A h0 0 0 60 #[SI P1_, SJ PJ2_, SS, SR A3_, SI G4_, SI G5_, SR A3_, SU, SU, SU, SU, SU, SU, SU, SU, SU, SU, SU, SU, SU, SU] := by
  by_cases hm0 : (P1_ &&& (16 : Int32)) = (0 : Int32)
  ·
    exact jLi at_60 rfl (jkB 16 at_61 rfl (jiand at_63 (jieqY 71 at_64 hm0 (jkI 0 at_71 rfl (jtI at_72 #[SI P1_, SJ PJ2_, SS, SR A3_, SI G4_, SI G5_, SR A3_, SI 0, SU, SU, SU, SU, SU, SU, SU, SU, SU, SU, SU, SU, SU] rfl (own_mono (tl79 hw fm1_ fm2_ fm3_ fm4_ fm5_ fm6_ fm7_ fm8_ fm9_ fm10_ fm11_ fm12_ fm13_)))))))
  ·
    exact jLi at_60 rfl (jkB 16 at_61 rfl (jiand at_63 (jieqN at_64 hm0 (jkI 1 at_67 rfl (jgo 72 at_68 (jtI at_72 #[SI P1_, SJ PJ2_, SS, SR A3_, SI G4_, SI G5_, SR A3_, SI 1, SU, SU, SU, SU, SU, SU, SU, SU, SU, SU, SU, SU, SU] rfl (own_mono (tl79 hw fm1_ fm2_ fm3_ fm4_ fm5_ fm6_ fm7_ fm8_ fm9_ fm10_ fm11_ fm12_ fm13_))))))))
set_option maxRecDepth 65536 in
set_option maxHeartbeats 40000000 in
theorem tl59 {P1_ : Int32} {PJ2_ : Int64} {A3_ : Addr} {G4_ G5_ : Int32} {A6_ A7_ A8_ : Addr} {KK9_ : ClassId} {A10_ A11_ A12_ A13_ : Addr} {KK14_ : ClassId} (hw : HW a0 Z) (fm1_ : Sta Z Z.heap cC2 "SHARED" cC3 (VR A6_)) (fm2_ : Sta Z Z.heap cC6 "cache" cC7 (VR A7_)) (fm3_ : own_BoxLong Z A7_) (fm4_ : A3_ ≠ A6_) (fm5_ : Sta Z Z.heap cC21 "DEFAULTCAPACITY_EMPTY_ELEMENTDATA" cC1 (VR A8_)) (fm6_ : Sta Z Z.heap cC2 "EXCLUSIVE" cC3 (VR A3_)) (fm7_ : Arv Z h0 A8_ KK9_ (.object "java/lang/Object") 0 [] (.null)) (fm8_ : own_Mir Z cC1 A10_) (fm9_ : Sta Z Z.heap cC34 "EMPTY" cC9 (VR A11_)) (fm10_ : Sta Z Z.heap cC34 "EMPTY_LIST" cC36 (VR A12_)) (fm11_ : Exa Z h0 A12_ cC0) (fm12_ : Fld Z h0 A12_ cC0 "elements" cC1 (VR A13_)) (fm13_ : Arv Z h0 A13_ KK14_ (.object "java/lang/Object") 0 [] (.null)) :
    own_T l Z a0 A h0 0 0 42 #[SI P1_, SJ PJ2_, SS, SR A3_, SI G4_, SI G5_, SU, SU, SU, SU, SU, SU, SU, SU, SU, SU, SU, SU, SU, SU, SU] := by
  by_cases hm0 : (P1_ &&& (8 : Int32)) = (0 : Int32)
  ·
    exact jLi at_42 rfl (jkB 8 at_43 rfl (jiand at_45 (jieqY 55 at_46 hm0 (jgS 0 fm1_ at_55 (jtA at_58 #[SI P1_, SJ PJ2_, SS, SR A3_, SI G4_, SI G5_, SR A6_, SU, SU, SU, SU, SU, SU, SU, SU, SU, SU, SU, SU, SU, SU] rfl (own_mono (tl60 hw fm2_ fm3_ fm1_ fm4_ fm5_ fm6_ fm7_ fm8_ fm9_ fm10_ fm11_ fm12_ fm13_)))))))
  ·
    exact jLi at_42 rfl (jkB 8 at_43 rfl (jiand at_45 (jieqN at_46 hm0 (jgS 402 fm6_ at_49 (jgo 58 at_52 (jtA at_58 #[SI P1_, SJ PJ2_, SS, SR A3_, SI G4_, SI G5_, SR A3_, SU, SU, SU, SU, SU, SU, SU, SU, SU, SU, SU, SU, SU, SU] rfl (own_mono (tl78 hw fm2_ fm3_ fm1_ fm4_ fm5_ fm6_ fm7_ fm8_ fm9_ fm10_ fm11_ fm12_ fm13_))))))))
set_option maxRecDepth 65536 in
set_option maxHeartbeats 40000000 in
theorem tl58 {P1_ : Int32} {PJ2_ : Int64} {A3_ : Addr} {G4_ : Int32} {A5_ A6_ A7_ : Addr} {KK8_ : ClassId} {A9_ A10_ A11_ A12_ : Addr} {KK13_ : ClassId} (hw : HW a0 Z) (fm1_ : Sta Z Z.heap cC2 "SHARED" cC3 (VR A5_)) (fm2_ : Sta Z Z.heap cC6 "cache" cC7 (VR A6_)) (fm3_ : own_BoxLong Z A6_) (fm4_ : A3_ ≠ A5_) (fm5_ : Sta Z Z.heap cC21 "DEFAULTCAPACITY_EMPTY_ELEMENTDATA" cC1 (VR A7_)) (fm6_ : Sta Z Z.heap cC2 "EXCLUSIVE" cC3 (VR A3_)) (fm7_ : Arv Z h0 A7_ KK8_ (.object "java/lang/Object") 0 [] (.null)) (fm8_ : own_Mir Z cC1 A9_) (fm9_ : Sta Z Z.heap cC34 "EMPTY" cC9 (VR A10_)) (fm10_ : Sta Z Z.heap cC34 "EMPTY_LIST" cC36 (VR A11_)) (fm11_ : Exa Z h0 A11_ cC0) (fm12_ : Fld Z h0 A11_ cC0 "elements" cC1 (VR A12_)) (fm13_ : Arv Z h0 A12_ KK13_ (.object "java/lang/Object") 0 [] (.null)) :
    own_T l Z a0 A h0 0 0 29 #[SI P1_, SJ PJ2_, SS, SR A3_, SI G4_, SU, SU, SU, SU, SU, SU, SU, SU, SU, SU, SU, SU, SU, SU, SU, SU] := by
  by_cases hm0 : (P1_ &&& (4 : Int32)) = (0 : Int32)
  ·
    exact jLi at_29 rfl (jkI 4 at_30 rfl (jiand at_31 (jieqY 39 at_32 hm0 (jkI 0 at_39 rfl (jtI at_40 #[SI P1_, SJ PJ2_, SS, SR A3_, SI G4_, SI 0, SU, SU, SU, SU, SU, SU, SU, SU, SU, SU, SU, SU, SU, SU, SU] rfl (own_mono (tl59 hw fm1_ fm2_ fm3_ fm4_ fm5_ fm6_ fm7_ fm8_ fm9_ fm10_ fm11_ fm12_ fm13_)))))))
  ·
    exact jLi at_29 rfl (jkI 4 at_30 rfl (jiand at_31 (jieqN at_32 hm0 (jkI 1 at_35 rfl (jgo 40 at_36 (jtI at_40 #[SI P1_, SJ PJ2_, SS, SR A3_, SI G4_, SI 1, SU, SU, SU, SU, SU, SU, SU, SU, SU, SU, SU, SU, SU, SU, SU] rfl (own_mono (tl59 hw fm1_ fm2_ fm3_ fm4_ fm5_ fm6_ fm7_ fm8_ fm9_ fm10_ fm11_ fm12_ fm13_))))))))
set_option maxRecDepth 65536 in
set_option maxHeartbeats 40000000 in
theorem tl57 {P1_ : Int32} {PJ2_ : Int64} {A3_ A4_ A5_ A6_ : Addr} {KK7_ : ClassId} {A8_ A9_ A10_ A11_ : Addr} {KK12_ : ClassId} (hw : HW a0 Z) (fm1_ : Sta Z Z.heap cC2 "SHARED" cC3 (VR A4_)) (fm2_ : Sta Z Z.heap cC6 "cache" cC7 (VR A5_)) (fm3_ : own_BoxLong Z A5_) (fm4_ : A3_ ≠ A4_) (fm5_ : Sta Z Z.heap cC21 "DEFAULTCAPACITY_EMPTY_ELEMENTDATA" cC1 (VR A6_)) (fm6_ : Sta Z Z.heap cC2 "EXCLUSIVE" cC3 (VR A3_)) (fm7_ : Arv Z h0 A6_ KK7_ (.object "java/lang/Object") 0 [] (.null)) (fm8_ : own_Mir Z cC1 A8_) (fm9_ : Sta Z Z.heap cC34 "EMPTY" cC9 (VR A9_)) (fm10_ : Sta Z Z.heap cC34 "EMPTY_LIST" cC36 (VR A10_)) (fm11_ : Exa Z h0 A10_ cC0) (fm12_ : Fld Z h0 A10_ cC0 "elements" cC1 (VR A11_)) (fm13_ : Arv Z h0 A11_ KK12_ (.object "java/lang/Object") 0 [] (.null)) :
    own_T l Z a0 A h0 0 0 16 #[SI P1_, SJ PJ2_, SS, SR A3_, SU, SU, SU, SU, SU, SU, SU, SU, SU, SU, SU, SU, SU, SU, SU, SU, SU] := by
  by_cases hm0 : (P1_ &&& (2 : Int32)) = (0 : Int32)
  ·
    exact jLi at_16 rfl (jkI 2 at_17 rfl (jiand at_18 (jieqY 26 at_19 hm0 (jkI 0 at_26 rfl (jtI at_27 #[SI P1_, SJ PJ2_, SS, SR A3_, SI 0, SU, SU, SU, SU, SU, SU, SU, SU, SU, SU, SU, SU, SU, SU, SU, SU] rfl (own_mono (tl58 hw fm1_ fm2_ fm3_ fm4_ fm5_ fm6_ fm7_ fm8_ fm9_ fm10_ fm11_ fm12_ fm13_)))))))
  ·
    exact jLi at_16 rfl (jkI 2 at_17 rfl (jiand at_18 (jieqN at_19 hm0 (jkI 1 at_22 rfl (jgo 27 at_23 (jtI at_27 #[SI P1_, SJ PJ2_, SS, SR A3_, SI 1, SU, SU, SU, SU, SU, SU, SU, SU, SU, SU, SU, SU, SU, SU, SU, SU] rfl (own_mono (tl58 hw fm1_ fm2_ fm3_ fm4_ fm5_ fm6_ fm7_ fm8_ fm9_ fm10_ fm11_ fm12_ fm13_))))))))
set_option maxRecDepth 65536 in
set_option maxHeartbeats 40000000 in
theorem rm0a {p1 : Int32} {p2 : Int64} {wM wE wS wC wDE : Addr} {k_wDE : ClassId} {wEE : Addr} {k_wEE : ClassId} {wEM wEL wELe : Addr} {k_wELe : ClassId} (hw : HW a0 Z) (M_wM : own_Mir Z "[Ljava/lang/Object;" wM) (O_wE : Sta Z Z.heap "com/example/acidb/acidb/sql/LockMode" "EXCLUSIVE" "Lcom/example/acidb/acidb/sql/LockMode;" (.ref wE)) (E_wE : Exa Z h0 wE "com/example/acidb/acidb/sql/LockMode") (O_wS : Sta Z Z.heap "com/example/acidb/acidb/sql/LockMode" "SHARED" "Lcom/example/acidb/acidb/sql/LockMode;" (.ref wS)) (E_wS : Exa Z h0 wS "com/example/acidb/acidb/sql/LockMode") (O_wC : Sta Z Z.heap "java/lang/Long$LongCache" "cache" "[Ljava/lang/Long;" (.ref wC)) (B_wC : own_BoxLong Z wC) (O_wDE : Sta Z Z.heap "java/util/ArrayList" "DEFAULTCAPACITY_EMPTY_ELEMENTDATA" "[Ljava/lang/Object;" (.ref wDE)) (E_wDE : Exa Z h0 wDE "[Ljava/lang/Object;") (V_wDE : Arv Z h0 wDE k_wDE (.object "java/lang/Object") 0 [] (.null)) (O_wEE : Sta Z Z.heap "java/util/ArrayList" "EMPTY_ELEMENTDATA" "[Ljava/lang/Object;" (.ref wEE)) (E_wEE : Exa Z h0 wEE "[Ljava/lang/Object;") (V_wEE : Arv Z h0 wEE k_wEE (.object "java/lang/Object") 0 [] (.null)) (O_wEM : Sta Z Z.heap "java/util/ImmutableCollections" "EMPTY" "Ljava/lang/Object;" (.ref wEM)) (E_wEM : Exa Z h0 wEM "java/lang/Object") (O_wEL : Sta Z Z.heap "java/util/ImmutableCollections" "EMPTY_LIST" "Ljava/util/ImmutableCollections$ListN;" (.ref wEL)) (E_wEL : Exa Z h0 wEL "java/util/ImmutableCollections$ListN") (F_wEL : Fld Z h0 wEL cC0 "elements" cC1 (VR wELe)) (V_wELe : Arv Z h0 wELe k_wELe (.object "java/lang/Object") 0 [] (.null)) (O_sA : Sta Z Z.heap "java/util/ImmutableCollections" "$assertionsDisabled" "Z" (.int (1 : Int32))) (D_wE_wS : wE ≠ wS) :
    own_T l Z a0 #[(.int p1), (.long p2)] h0 0 0 0 #[SI p1, SJ p2, SS, SU, SU, SU, SU, SU, SU, SU, SU, SU, SU, SU, SU, SU, SU, SU, SU, SU, SU] := by
  by_cases hc0 : (p1 &&& (1 : Int32)) = (0 : Int32)
  ·
    exact jLi at_0 rfl (jkI 1 at_1 rfl (jiand at_2 (jieqY 12 at_3 hc0 (jgS 0 O_wS at_12 (jta at_15 #[SI p1, SJ p2, SS, SR wS, SU, SU, SU, SU, SU, SU, SU, SU, SU, SU, SU, SU, SU, SU, SU, SU, SU] rfl (own_mono (tl1 hw O_wS O_wC B_wC O_wDE O_wE D_wE_wS.symm M_wM O_wEM O_wEL E_wEL F_wEL V_wELe E_wS V_wDE E_wEM)))))))
  ·
    exact jLi at_0 rfl (jkI 1 at_1 rfl (jiand at_2 (jieqN at_3 hc0 (jgS 402 O_wE at_6 (jgo 15 at_9 (jta at_15 #[SI p1, SJ p2, SS, SR wE, SU, SU, SU, SU, SU, SU, SU, SU, SU, SU, SU, SU, SU, SU, SU, SU, SU] rfl (own_mono (tl57 hw O_wS O_wC B_wC D_wE_wS O_wDE O_wE V_wDE M_wM O_wEM O_wEL E_wEL F_wEL V_wELe))))))))
theorem ef0 (m : MethodId) (p1 : Int32) (p2 : Int64) : entryFrame m #[(.int p1), (.long p2)] maxLocals = mkF m 0 #[SI p1, SJ p2, SS, SU, SU, SU, SU, SU, SU, SU, SU, SU, SU, SU, SU, SU, SU, SU, SU, SU, SU] [] := by first | (simp [entryFrame, mkF, argsToLocals, Value.category, maxLocals]; done) | rfl
end Walk
set_option maxRecDepth 65536 in
set_option maxHeartbeats 40000000 in
theorem rm0 (l : Launch) (Z : State) (a0 : Array Value) (hw : HW a0 Z) (ws : List Jvm.Cond) (p1 : Int32) (p2 : Int64) (wM : Addr) (wE : Addr) (wS : Addr) (wC : Addr) (wDE : Addr) (k_wDE : ClassId) (wEE : Addr) (k_wEE : ClassId) (wEM : Addr) (wEL : Addr) (wELe : Addr) (k_wELe : ClassId) (h0 : Heap) (n0 : Nat) (Z0 : n0 ≤ h0.size) (X00 : Old Z n0 h0) (M_wM : own_Mir Z "[Ljava/lang/Object;" wM) (O_wE : Sta Z Z.heap "com/example/acidb/acidb/sql/LockMode" "EXCLUSIVE" "Lcom/example/acidb/acidb/sql/LockMode;" (.ref wE)) (E_wE : Exa Z h0 wE "com/example/acidb/acidb/sql/LockMode") (O_wS : Sta Z Z.heap "com/example/acidb/acidb/sql/LockMode" "SHARED" "Lcom/example/acidb/acidb/sql/LockMode;" (.ref wS)) (E_wS : Exa Z h0 wS "com/example/acidb/acidb/sql/LockMode") (O_wC : Sta Z Z.heap "java/lang/Long$LongCache" "cache" "[Ljava/lang/Long;" (.ref wC)) (B_wC : own_BoxLong Z wC) (O_wDE : Sta Z Z.heap "java/util/ArrayList" "DEFAULTCAPACITY_EMPTY_ELEMENTDATA" "[Ljava/lang/Object;" (.ref wDE)) (E_wDE : Exa Z h0 wDE "[Ljava/lang/Object;") (V_wDE : Arv Z h0 wDE k_wDE (.object "java/lang/Object") 0 [] (.null)) (O_wEE : Sta Z Z.heap "java/util/ArrayList" "EMPTY_ELEMENTDATA" "[Ljava/lang/Object;" (.ref wEE)) (E_wEE : Exa Z h0 wEE "[Ljava/lang/Object;") (V_wEE : Arv Z h0 wEE k_wEE (.object "java/lang/Object") 0 [] (.null)) (O_wEM : Sta Z Z.heap "java/util/ImmutableCollections" "EMPTY" "Ljava/lang/Object;" (.ref wEM)) (E_wEM : Exa Z h0 wEM "java/lang/Object") (O_wEL : Sta Z Z.heap "java/util/ImmutableCollections" "EMPTY_LIST" "Ljava/util/ImmutableCollections$ListN;" (.ref wEL)) (E_wEL : Exa Z h0 wEL "java/util/ImmutableCollections$ListN") (F_wEL : Fld Z h0 wEL cC0 "elements" cC1 (VR wELe)) (V_wELe : Arv Z h0 wELe k_wELe (.object "java/lang/Object") 0 [] (.null)) (O_sA : Sta Z Z.heap "java/util/ImmutableCollections" "$assertionsDisabled" "Z" (.int (1 : Int32))) (D_wE_wS : wE ≠ wS) :
    MetFree l x (head1 (Jvm.Cond.code x code maxLocals ret :: ws) room_1) (fun a U => a = #[(.int p1), (.long p2)] ∧ Z.Warmed39 U.vm ∧ U.heap = h0) (fun _ _ _ _ _ => True) (fun _ U o U' => ∃ v L, o = .returned v ∧ Q0 n0 v U'.heap L ∧ FrameEnd U o U' L 64 320) := by
  refine own_enter (n0 := n0) (plainFor_of_name pn0) (fun m => ef0 m p1 p2) ?_
  intro p e s m below meth c s₁ hx hby hml hown hnm hret hlk X0 e0 hZ hh N0
  replace hml : c.maxLocals = 21 := hml
  obtain ⟨rfl, E0⟩ := X00
  obtain ⟨U, o, h1, h2, h3, v, L, h4, h5, h6, h7, h8⟩ := rm0a (l := l) hw M_wM O_wE E_wE O_wS E_wS O_wC B_wC O_wDE E_wDE V_wDE O_wEE E_wEE V_wEE O_wEM E_wEM O_wEL E_wEL F_wEL V_wELe O_sA D_wE_wS p e s m below meth c s₁ [] ⟨hw, hx, hby, hml, hown, hnm, hret, hlk, hZ⟩ E0 X0 e0 N0
  exact ⟨U, o, h1, h2, h3, v, L, h4, ⟨h5, h7⟩, h8⟩
set_option maxRecDepth 65536 in
set_option maxHeartbeats 40000000 in
theorem comes_1 {Post : Tables → Env → Array Value → State → Outcome → State → Prop} (hpost : ∀ tb e args s v u, (limb_1_1.after args s (.returned v) u = true ∧ limb_1_2.after args s (.returned v) u = true ∧ True) → FrameEnd s (.returned v) u (Jvm.fieldLocs frame_1_writes args s ++ Jvm.arrayLocs frame_1_arrays args s ++ Jvm.staticLocs frame_1_statics s) 64 320 → Post tb e args s (.returned v) u) :
    ArmFor flags0 classFile x code maxLocals ret World_1 tables_1 room_1 Calls_1 rest_1 Pre_1 Post := by
  intro l hfl _ _ p e ha hc hk s m args below hf hA hF happ hP
  obtain ⟨hcalls, hrest, hpre⟩ := hP
  obtain ⟨-, -, -, hnamed, -, -, -, hat⟩ := (Spec.applies_iff hf).mp happ
  obtain ⟨hg, hn⟩ := and_e (Cond.before_iff.mp (show (Jvm.Cond.and given_1 narrow_1).before args s = true from hpre))
  obtain ⟨hcount, ha0⟩ := and_e hg
  obtain ⟨hv0, ha1⟩ := and_e ha0
  have hv1 := ha1
  obtain ⟨w0, w1, rfl⟩ : ∃ w0 w1 : Value, args = #[w0, w1] := by
    have hs : args.size = 2 := by simpa [Cond.value, given_1] using hcount
    obtain ⟨L⟩ := args
    match L, hs with
    | [w0, w1], _ => exact ⟨w0, w1, rfl⟩
  have hw := fun d (hd : d ∈ tables_1) => atoms_spec (ws := Jvm.Cond.code x code maxLocals ret :: tables_1) hat d (List.mem_cons_of_mem _ hd)
  obtain ⟨hsets, hown0⟩ := atoms_of _ (rest_1_c_eq ▸ (show rest_1_c.before _ s = true from hrest))
  obtain ⟨i0, ei0⟩ := is_v hv0
  obtain rfl : w0 = (.int i0) := Option.some.inj ei0
  obtain ⟨i1, ei1⟩ := isL_v hv1
  obtain rfl : w1 = (.long i1) := Option.some.inj ei1
  obtain ⟨hnl, hnr⟩ := and_e hn
  obtain ⟨hnrl, hnrr⟩ := and_e hnr
  obtain ⟨hnrrl, hnrrr⟩ := and_e hnrr
  obtain ⟨wMc, wMk, wM, wM1, wM2, wM3⟩ := hcalls.1
  obtain ⟨wE, e_wE⟩ := exa_v hnrl
  have S_wE : Sta s s.heap "com/example/acidb/acidb/sql/LockMode" "EXCLUSIVE" "Lcom/example/acidb/acidb/sql/LockMode;" (.ref wE) := Sta.start e_wE (Or.inr ⟨(WW hw 1), (WW hw 149)⟩)
  have x_wE : Exa s s.heap wE "com/example/acidb/acidb/sql/LockMode" := Exa.start e_wE hnrl
  obtain ⟨wS, e_wS⟩ := exa_v hnl
  have S_wS : Sta s s.heap "com/example/acidb/acidb/sql/LockMode" "SHARED" "Lcom/example/acidb/acidb/sql/LockMode;" (.ref wS) := Sta.start e_wS (Or.inr ⟨(WW hw 1), (WW hw 2)⟩)
  have x_wS : Exa s s.heap wS "com/example/acidb/acidb/sql/LockMode" := Exa.start e_wS hnl
  obtain ⟨wC, e_wC⟩ := exa_v (Cond.before_iff.mp (hsets _ (List.mem_of_getElem? (i := 3) rfl)))
  have S_wC : Sta s s.heap "java/lang/Long$LongCache" "cache" "[Ljava/lang/Long;" (.ref wC) := Sta.start e_wC (Or.inl (hsets _ (List.mem_of_getElem? (i := 1) rfl)))
  have b_wC : own_BoxLong s wC := own_boxedLong (fun _ => e_wC) (Cond.before_iff.mp (hsets _ (List.mem_of_getElem? (i := 2) rfl))) (Cond.before_iff.mp (hsets _ (List.mem_of_getElem? (i := 4) rfl))) (Cond.before_iff.mp (hsets _ (List.mem_of_getElem? (i := 5) rfl)))
  obtain ⟨wDE, e_wDE⟩ := exa_v (Cond.before_iff.mp (hsets _ (List.mem_of_getElem? (i := 13) rfl)))
  have S_wDE : Sta s s.heap "java/util/ArrayList" "DEFAULTCAPACITY_EMPTY_ELEMENTDATA" "[Ljava/lang/Object;" (.ref wDE) := Sta.start e_wDE (Or.inr ⟨(WW hw 110), (hsets _ (List.mem_of_getElem? (i := 8) rfl))⟩)
  have x_wDE : Exa s s.heap wDE "[Ljava/lang/Object;" := Exa.start e_wDE (Cond.before_iff.mp (hsets _ (List.mem_of_getElem? (i := 13) rfl)))
  obtain ⟨k_wDE, v_wDE⟩ := own_arv0 e_wDE (Cond.before_iff.mp (hsets _ (List.mem_of_getElem? (i := 12) rfl))) (Cond.before_iff.mp (hsets _ (List.mem_of_getElem? (i := 14) rfl)))
  obtain ⟨wEE, e_wEE⟩ := exa_v (Cond.before_iff.mp (hsets _ (List.mem_of_getElem? (i := 10) rfl)))
  have S_wEE : Sta s s.heap "java/util/ArrayList" "EMPTY_ELEMENTDATA" "[Ljava/lang/Object;" (.ref wEE) := Sta.start e_wEE (Or.inl (hsets _ (List.mem_of_getElem? (i := 7) rfl)))
  have x_wEE : Exa s s.heap wEE "[Ljava/lang/Object;" := Exa.start e_wEE (Cond.before_iff.mp (hsets _ (List.mem_of_getElem? (i := 10) rfl)))
  obtain ⟨k_wEE, v_wEE⟩ := own_arv0 e_wEE (Cond.before_iff.mp (hsets _ (List.mem_of_getElem? (i := 9) rfl))) (Cond.before_iff.mp (hsets _ (List.mem_of_getElem? (i := 11) rfl)))
  obtain ⟨wEM, e_wEM⟩ := exa_v (Cond.before_iff.mp (hsets _ (List.mem_of_getElem? (i := 17) rfl)))
  have S_wEM : Sta s s.heap "java/util/ImmutableCollections" "EMPTY" "Ljava/lang/Object;" (.ref wEM) := Sta.start e_wEM (Or.inl (hsets _ (List.mem_of_getElem? (i := 16) rfl)))
  have x_wEM : Exa s s.heap wEM "java/lang/Object" := Exa.start e_wEM (Cond.before_iff.mp (hsets _ (List.mem_of_getElem? (i := 17) rfl)))
  obtain ⟨wEL, e_wEL⟩ := exa_v (Cond.before_iff.mp (hsets _ (List.mem_of_getElem? (i := 23) rfl)))
  have S_wEL : Sta s s.heap "java/util/ImmutableCollections" "EMPTY_LIST" "Ljava/util/ImmutableCollections$ListN;" (.ref wEL) := Sta.start e_wEL (Or.inl (hsets _ (List.mem_of_getElem? (i := 22) rfl)))
  have x_wEL : Exa s s.heap wEL "java/util/ImmutableCollections$ListN" := Exa.start e_wEL (Cond.before_iff.mp (hsets _ (List.mem_of_getElem? (i := 23) rfl)))
  obtain ⟨wELe, e_wELe⟩ := exa_v (Cond.before_iff.mp (hsets _ (List.mem_of_getElem? (i := 28) rfl)))
  have f_wEL : Fld s s.heap wEL "java/util/ImmutableCollections$ListN" "elements" "[Ljava/lang/Object;" (.ref wELe) := Fld.start ((fld_at e_wEL).symm.trans e_wELe)
  obtain ⟨k_wELe, v_wELe⟩ := own_arv0 e_wELe (Cond.before_iff.mp (hsets _ (List.mem_of_getElem? (i := 27) rfl))) (Cond.before_iff.mp (hsets _ (List.mem_of_getElem? (i := 29) rfl)))
  have e_sA := eqv_i (Term.int_eval (1)) (Cond.before_iff.mp (hsets _ (List.mem_of_getElem? (i := 20) rfl)))
  have S_sA : Sta s s.heap "java/util/ImmutableCollections" "$assertionsDisabled" "Z" (.int (1 : Int32)) := Sta.start e_sA (Or.inl (hsets _ (List.mem_of_getElem? (i := 19) rfl)))
  have o_wE : Fld s s.heap wE "java/lang/Enum" "ordinal" "I" (.int (1 : Int32)) := own_ord e_wE hnrrr
  have o_wS : Fld s s.heap wS "java/lang/Enum" "ordinal" "I" (.int (0 : Int32)) := own_ord e_wS hnrrl
  obtain ⟨n, o, h1, h2, h3, _, L, rfl, ⟨rfl, N⟩, hq⟩ := rm0 l s _ hw tables_1 i0 i1 wM wE wS wC wDE k_wDE wEE k_wEE wEM wEL wELe k_wELe s.heap s.heap.size (Nat.le_refl _) (Old.start s) ⟨wMc, wMk, wM1, wM2, wM3.1⟩ S_wE x_wE S_wS x_wS S_wC b_wC S_wDE x_wDE v_wDE S_wEE x_wEE v_wEE S_wEM x_wEM S_wEL x_wEL f_wEL v_wELe S_sA (Fld.ne o_wE o_wS (by decide)) p e ha hc hk s m _ below hf ((Spec.applies_iff_loose hf).mp happ).1 ⟨rfl, State.Warmed39.refl s, rfl⟩ trivial
  refine ⟨n, _, h1, h2, h3, hpost _ _ _ _ _ _ ⟨Cond.after_iff.mpr rfl, Cond.after_iff.mpr (eq_i res_at (Term.int_eval (1)) rfl), trivial⟩ ⟨hq.1, hq.2.1, (hq.2.2.sift fun y hy => Or.inr (N y hy)).mono (by decide) (by decide)⟩⟩
theorem main_1_1 : Claimed_1_1 := comes_1 fun _ _ _ _ _ _ h hF => ⟨h.1, hF⟩
theorem main_1_2 : Claimed_1_2 := comes_1 fun _ _ _ _ _ _ h hF => ⟨h.2.1, hF⟩
end Jvm.Pilot.@@N@@
namespace Jvm.Pilot.@@N@@
open Jvm Jvm.ClassFile Sem Op Lib Jvm.Free Jvm.Stand Jvm.Pilot.@@N@@.Jvm.D
/-! MADE BY PROGRAM (witnessworld.py) out of the Statement's table words and the real class files: 47 classes; the members and pool entries that the words name. The judged class is class 1, her method 1. -/
namespace start1
open Jvm.ClassFile
def u (s : String) : CpInfo := .utf8 (stringToUtf16 s)
def gap : Nat → List CpInfo → List CpInfo
  | 0, r => r
  | n + 1, r => .unusable :: gap n r
def poolList (es : List (Nat × CpInfo)) (last : Nat) : List CpInfo := es.foldr (fun e r => gap e.1 (e.2 :: r)) (gap last [])
def pool (es : List (Nat × CpInfo)) (last : Nat) : Array CpInfo := ⟨poolList es last⟩
def fileOf (pool : Array CpInfo) (this : Nat) (attrs : Array Attribute := #[]) (ms : Array MethodInfo := #[]) (fl : Nat := 33) (sup : Nat := 0) (ifs : Array Nat := #[]) (fds : Array FieldInfo := #[]) : ClassFile where
  minorVersion := 0
  majorVersion := 65
  constantPool := pool
  accessFlags := fl
  thisClass := this
  superClass := sup
  interfaces := ifs
  fields := fds
  methods := ms
  attributes := attrs
def plain (name : String) (sup : Option ClassId) : Class where
  name := name
  kind := .ordinary
  loader := none
  accessFlags := 33
  super := sup
  interfaces := #[]
  cf := none
  fields := #[]
  methods := #[]
  instanceTypes := #[]
  staticTypes := #[]
  resolved := #[]
  callSites := []
  init := .initialized
  statics := none
  mirror := none

def pool0 : Array CpInfo := pool [(5, u "<init>"), (0, u "()V"), (1, .class_ 10), (1, u "java/lang/Object"), (0, u "getClass"), (0, u "()Ljava/lang/Class;"), (79, u "equals"), (0, u "(Ljava/lang/Object;)Z")] 30

def k0c0 : Code := ⟨0, 1, object_method_1_code, #[], #[]⟩
def k0m0 : Method := { name := "<init>", desc := "()V", sig := { parameters := [], returnType := none }, accessFlags := 1, code := some k0c0 }
def k0m1 : Method := { name := "getClass", desc := "()Ljava/lang/Class;", sig := { parameters := [], returnType := some (.object "java/lang/Class") }, accessFlags := 273, code := none }
def k0c2 : Code := ⟨2, 2, object_method_4_code, #[], #[]⟩
def k0m2 : Method := { name := "equals", desc := "(Ljava/lang/Object;)Z", sig := { parameters := [(.object "java/lang/Object")], returnType := some .boolean }, accessFlags := 1, code := some k0c2 }
def k0 : Class := { plain "java/lang/Object" none with
  accessFlags := 33
  interfaces := #[]
  cf := some (fileOf pool0 8 #[] #[⟨1, 5, 6, #[]⟩, ⟨273, 11, 12, #[]⟩, ⟨1, 92, 93, #[]⟩] 33 0 #[] #[])
  fields := #[]
  methods := #[k0m0, k0m1, k0m2]
  instanceTypes := #[]
  staticTypes := #[]
  resolved := Array.replicate 124 none
  statics := none }

def pool1 : Array CpInfo := pool [(2, .class_ 4), (1, u "java/lang/Object"), (0, u "<init>"), (0, u "()V"), (0, .fieldref 8 9), (0, .class_ 10), (0, .nameAndType 11 12), (0, u "com/example/acidb/acidb/sql/LockMode"), (0, u "EXCLUSIVE"), (0, u "Lcom/example/acidb/acidb/sql/LockMode;"), (0, .fieldref 8 14), (0, .nameAndType 15 12), (0, u "SHARED"), (0, .class_ 17), (0, u "com/example/acidb/acidb/engine/LockedRow"), (0, .methodref 19 20), (0, .class_ 21), (0, .nameAndType 22 23), (0, u "java/lang/Long"), (0, u "valueOf"), (0, u "(J)Ljava/lang/Long;"), (0, .methodref 16 25), (0, .nameAndType 5 26), (0, u "(Ljava/lang/Object;)V"), (0, .class_ 28), (0, u "com/example/acidb/acidb/engine/Transaction"), (0, .methodref 27 30), (0, .nameAndType 5 31), (0, u "(Lcom/example/acidb/acidb/engine/IsolationLevel;)V"), (0, .methodref 16 33), (0, .nameAndType 34 35), (0, u "isFree"), (0, u "()Z"), (0, .methodref 16 37), (0, .nameAndType 38 39), (0, u "request"), (0, u "(Lcom/example/acidb/acidb/engine/Transaction;Lcom/example/acidb/acidb/sql/LockMode;)Lcom/example/acidb/acidb/engine/LockedRow$Request;"), (0, .methodref 16 41), (0, .nameAndType 42 43), (0, u "cancel"), (0, u "(Lcom/example/acidb/acidb/engine/LockedRow$Request;)Z"), (0, .methodref 16 45), (0, .nameAndType 46 47), (0, u "release"), (0, u "(Lcom/example/acidb/acidb/engine/Transaction;)Z"), (0, .class_ 49), (0, u "com/example/acidb/acidb/engine/LockedRowIsFreePinLaw"), (2, u "law"), (0, u "(IJ)Z")] 7

def k1m0 : Method := { name := "<init>", desc := "()V", sig := { parameters := [], returnType := none }, accessFlags := 2, code := none }
def k1c1 : Code := ⟨4, 21, code, #[], #[]⟩
def k1m1 : Method := { name := "law", desc := "(IJ)Z", sig := { parameters := [.int, .long], returnType := some .boolean }, accessFlags := 9, code := some k1c1 }
def k1 : Class := { plain "com/example/acidb/acidb/engine/LockedRowIsFreePinLaw" (some 0) with
  accessFlags := 49
  interfaces := #[]
  cf := some (fileOf pool1 48 #[] #[⟨2, 5, 6, #[]⟩, ⟨9, 52, 53, #[]⟩] 49 2 #[] #[])
  fields := #[]
  methods := #[k1m0, k1m1]
  instanceTypes := #[]
  staticTypes := #[]
  resolved := Array.replicate 61 none
  statics := none }

def pool2 : Array CpInfo := pool [(1, .class_ 2), (0, u "java/lang/constant/Constable"), (0, .class_ 4), (0, u "java/lang/Object")] 6

def k2 : Class := { plain "java/lang/constant/Constable" (some 0) with
  accessFlags := 1537
  interfaces := #[]
  cf := some (fileOf pool2 1 #[] #[] 1537 3 #[] #[])
  fields := #[]
  methods := #[]
  instanceTypes := #[]
  staticTypes := #[]
  resolved := Array.replicate 11 none
  statics := none }

def pool3 : Array CpInfo := pool [(1, .class_ 2), (0, u "java/lang/Comparable"), (0, .class_ 4), (0, u "java/lang/Object")] 7

def k3 : Class := { plain "java/lang/Comparable" (some 0) with
  accessFlags := 1537
  interfaces := #[]
  cf := some (fileOf pool3 1 #[] #[] 1537 3 #[] #[])
  fields := #[]
  methods := #[]
  instanceTypes := #[]
  staticTypes := #[]
  resolved := Array.replicate 12 none
  statics := none }

def pool4 : Array CpInfo := pool [(1, .class_ 2), (0, u "java/io/Serializable"), (0, .class_ 4), (0, u "java/lang/Object")] 2

def k4 : Class := { plain "java/io/Serializable" (some 0) with
  accessFlags := 1537
  interfaces := #[]
  cf := some (fileOf pool4 1 #[] #[] 1537 3 #[] #[])
  fields := #[]
  methods := #[]
  instanceTypes := #[]
  staticTypes := #[]
  resolved := Array.replicate 7 none
  statics := none }

def pool5 : Array CpInfo := pool [(2, .class_ 4), (1, u "java/lang/Enum"), (0, u "name"), (0, u "Ljava/lang/String;"), (2, u "ordinal"), (0, u "I"), (1, .class_ 14), (1, u "java/lang/Object"), (4, u "hash"), (86, .class_ 108), (1, u "java/lang/Enum$EnumDesc"), (2, .class_ 112), (0, u "java/lang/constant/Constable"), (0, .class_ 114), (0, u "java/lang/Comparable"), (0, .class_ 116), (0, u "java/io/Serializable")] 87

def k5 : Class := { plain "java/lang/Enum" (some 0) with
  accessFlags := 1057
  interfaces := #[2, 3, 4]
  cf := some (fileOf pool5 2 #[.nestMembers #[106]] #[] 1057 12 #[111, 113, 115] #[⟨18, 5, 6, #[]⟩, ⟨18, 9, 10, #[]⟩, ⟨2, 19, 10, #[]⟩])
  fields := #[⟨"name", (.object "java/lang/String"), 18, 0, 0⟩, ⟨"ordinal", .int, 18, 1, 0⟩, ⟨"hash", .int, 2, 2, 0⟩]
  methods := #[]
  instanceTypes := #[(.object "java/lang/String"), .int, .int]
  staticTypes := #[]
  resolved := Array.replicate 204 none
  statics := none }

def pool6 : Array CpInfo := pool [(1, .class_ 2), (0, u "com/example/acidb/acidb/sql/LockMode"), (0, .fieldref 1 4), (0, .nameAndType 5 6), (0, u "SHARED"), (0, u "Lcom/example/acidb/acidb/sql/LockMode;"), (2, u "EXCLUSIVE"), (2, u "$VALUES"), (0, u "[Lcom/example/acidb/acidb/sql/LockMode;"), (6, .class_ 22), (1, u "java/lang/Enum"), (20, u "isCompatibleWith"), (0, u "(Lcom/example/acidb/acidb/sql/LockMode;)Z")] 5

def k6c0 : Code := ⟨2, 2, prog_86_method_4_code, #[], #[]⟩
def k6m0 : Method := { name := "isCompatibleWith", desc := "(Lcom/example/acidb/acidb/sql/LockMode;)Z", sig := { parameters := [(.object "com/example/acidb/acidb/sql/LockMode")], returnType := some .boolean }, accessFlags := 1, code := some k6c0 }
def k6 : Class := { plain "com/example/acidb/acidb/sql/LockMode" (some 5) with
  accessFlags := 16433
  interfaces := #[]
  cf := some (fileOf pool6 1 #[] #[⟨1, 43, 44, #[]⟩] 16433 20 #[] #[⟨16409, 5, 6, #[]⟩, ⟨16409, 9, 6, #[]⟩, ⟨4122, 12, 13, #[]⟩])
  fields := #[⟨"SHARED", (.object "com/example/acidb/acidb/sql/LockMode"), 16409, 0, 0⟩, ⟨"EXCLUSIVE", (.object "com/example/acidb/acidb/sql/LockMode"), 16409, 1, 0⟩, ⟨"$VALUES", (.array (.object "com/example/acidb/acidb/sql/LockMode")), 4122, 2, 0⟩]
  methods := #[k6m0]
  instanceTypes := #[(.object "java/lang/String"), .int, .int]
  staticTypes := #[(.object "com/example/acidb/acidb/sql/LockMode"), (.object "com/example/acidb/acidb/sql/LockMode"), (.array (.object "com/example/acidb/acidb/sql/LockMode"))]
  resolved := Array.replicate 50 none
  statics := some 0 }

def pool7 : Array CpInfo := pool [(1, .methodref 2 3), (0, .class_ 4), (0, .nameAndType 5 6), (0, u "java/lang/Object"), (0, u "<init>"), (0, u "()V"), (0, .fieldref 8 9), (0, .class_ 10), (0, .nameAndType 11 12), (0, u "com/example/acidb/acidb/engine/LockedRow"), (0, u "key"), (0, u "Ljava/lang/Object;"), (0, .class_ 14), (0, u "com/example/acidb/acidb/engine/LockedRow$Request"), (0, .methodref 8 16), (0, .nameAndType 17 18), (0, u "isHeldBy"), (0, u "(Lcom/example/acidb/acidb/engine/Transaction;)Z"), (0, .methodref 13 20), (0, .nameAndType 5 21), (0, u "(Lcom/example/acidb/acidb/engine/LockedRow;Lcom/example/acidb/acidb/engine/Transaction;Lcom/example/acidb/acidb/sql/LockMode;Z)V"), (0, .fieldref 8 23), (0, .nameAndType 24 25), (0, u "exclusive"), (0, u "Lcom/example/acidb/acidb/engine/Transaction;"), (0, .fieldref 27 28), (0, .class_ 29), (0, .nameAndType 30 31), (0, u "com/example/acidb/acidb/sql/LockMode"), (0, u "SHARED"), (0, u "Lcom/example/acidb/acidb/sql/LockMode;"), (0, .methodref 8 33), (0, .nameAndType 34 35), (0, u "sharedBy"), (0, u "(Lcom/example/acidb/acidb/engine/Transaction;)Lcom/example/acidb/acidb/engine/LockedRow$Request;"), (0, .fieldref 13 37), (0, .nameAndType 38 39), (0, u "granted"), (0, u "Z"), (0, .methodref 8 41), (0, .nameAndType 42 43), (0, u "canGrant"), (0, u "(Lcom/example/acidb/acidb/engine/LockedRow$Request;)Z"), (0, .methodref 8 45), (0, .nameAndType 46 47), (0, u "grant"), (0, u "(Lcom/example/acidb/acidb/engine/LockedRow$Request;)V"), (0, .methodref 8 49), (0, .nameAndType 50 51), (0, u "others"), (0, u "()Ljava/util/List;"), (0, .interfaceMethodref 53 54), (0, .class_ 55), (0, .nameAndType 56 57), (0, u "java/util/List"), (0, u "add"), (0, u "(Ljava/lang/Object;)Z"), (0, .methodref 8 59), (0, .nameAndType 60 6), (0, u "tidy"), (0, .fieldref 8 62), (0, .nameAndType 50 63), (0, u "Ljava/util/List;"), (0, .interfaceMethodref 53 65), (0, .nameAndType 66 57), (0, u "remove"), (0, .methodref 8 68), (0, .nameAndType 69 70), (0, u "grantWaiting"), (0, u "()Z"), (0, .fieldref 8 72), (0, .nameAndType 73 74), (0, u "version"), (0, u "[Ljava/lang/Object;"), (6, u "REMOVED"), (30, .interfaceMethodref 53 113), (0, .nameAndType 114 115), (0, u "iterator"), (0, u "()Ljava/util/Iterator;"), (0, .interfaceMethodref 117 118), (0, .class_ 119), (0, .nameAndType 120 70), (0, u "java/util/Iterator"), (0, u "hasNext"), (0, .interfaceMethodref 117 122), (0, .nameAndType 123 124), (0, u "next"), (0, u "()Ljava/lang/Object;"), (0, .fieldref 13 126), (0, .nameAndType 127 25), (0, u "transaction"), (0, .fieldref 13 129), (0, .nameAndType 130 31), (0, u "mode"), (0, .methodref 8 132), (0, .nameAndType 133 134), (0, u "inTheWay"), (0, u "(Lcom/example/acidb/acidb/engine/LockedRow$Request;)Ljava/util/List;"), (0, .interfaceMethodref 53 136), (0, .nameAndType 137 70), (0, u "isEmpty"), (0, .class_ 139), (0, u "java/util/ArrayList"), (0, .methodref 138 3), (0, .interfaceMethodref 53 142), (0, .nameAndType 143 144), (0, u "size"), (0, u "()I"), (0, .interfaceMethodref 53 146), (0, .nameAndType 147 148), (0, u "get"), (0, u "(I)Ljava/lang/Object;"), (0, .methodref 27 150), (0, .nameAndType 151 152), (0, u "isCompatibleWith"), (0, u "(Lcom/example/acidb/acidb/sql/LockMode;)Z"), (0, .fieldref 27 154), (0, .nameAndType 155 31), (0, u "EXCLUSIVE"), (0, .interfaceMethodref 53 157), (0, .nameAndType 158 57), (0, u "contains"), (0, .interfaceMethodref 53 160), (0, .nameAndType 161 162), (0, u "copyOf"), (0, u "(Ljava/util/Collection;)Ljava/util/List;"), (0, .methodref 138 164), (0, .nameAndType 5 165), (0, u "(I)V"), (2, u "(Ljava/lang/Object;)V"), (2, u "request"), (0, u "(Lcom/example/acidb/acidb/engine/Transaction;Lcom/example/acidb/acidb/sql/LockMode;)Lcom/example/acidb/acidb/engine/LockedRow$Request;"), (1, u "cancel"), (0, u "release"), (0, u "isFree")] 30

def k7c0 : Code := ⟨2, 2, prog_36_method_1_code, #[], #[]⟩
def k7m0 : Method := { name := "<init>", desc := "(Ljava/lang/Object;)V", sig := { parameters := [(.object "java/lang/Object")], returnType := none }, accessFlags := 0, code := some k7c0 }
def k7c1 : Code := ⟨7, 4, prog_36_method_3_code, #[], #[]⟩
def k7m1 : Method := { name := "request", desc := "(Lcom/example/acidb/acidb/engine/Transaction;Lcom/example/acidb/acidb/sql/LockMode;)Lcom/example/acidb/acidb/engine/LockedRow$Request;", sig := { parameters := [(.object "com/example/acidb/acidb/engine/Transaction"), (.object "com/example/acidb/acidb/sql/LockMode")], returnType := some (.object "com/example/acidb/acidb/engine/LockedRow$Request") }, accessFlags := 0, code := some k7c1 }
def k7c2 : Code := ⟨2, 2, prog_36_method_4_code, #[], #[]⟩
def k7m2 : Method := { name := "cancel", desc := "(Lcom/example/acidb/acidb/engine/LockedRow$Request;)Z", sig := { parameters := [(.object "com/example/acidb/acidb/engine/LockedRow$Request")], returnType := some .boolean }, accessFlags := 0, code := some k7c2 }
def k7c3 : Code := ⟨2, 3, prog_36_method_5_code, #[], #[]⟩
def k7m3 : Method := { name := "release", desc := "(Lcom/example/acidb/acidb/engine/Transaction;)Z", sig := { parameters := [(.object "com/example/acidb/acidb/engine/Transaction")], returnType := some .boolean }, accessFlags := 0, code := some k7c3 }
def k7c4 : Code := ⟨1, 1, prog_36_method_6_code, #[], #[]⟩
def k7m4 : Method := { name := "isFree", desc := "()Z", sig := { parameters := [], returnType := some .boolean }, accessFlags := 0, code := some k7c4 }
def k7c5 : Code := ⟨2, 2, prog_36_method_13_code, #[], #[]⟩
def k7m5 : Method := { name := "isHeldBy", desc := "(Lcom/example/acidb/acidb/engine/Transaction;)Z", sig := { parameters := [(.object "com/example/acidb/acidb/engine/Transaction")], returnType := some .boolean }, accessFlags := 2, code := some k7c5 }
def k7c6 : Code := ⟨2, 5, prog_36_method_14_code, #[], #[]⟩
def k7m6 : Method := { name := "sharedBy", desc := "(Lcom/example/acidb/acidb/engine/Transaction;)Lcom/example/acidb/acidb/engine/LockedRow$Request;", sig := { parameters := [(.object "com/example/acidb/acidb/engine/Transaction")], returnType := some (.object "com/example/acidb/acidb/engine/LockedRow$Request") }, accessFlags := 2, code := some k7c6 }
def k7c7 : Code := ⟨2, 2, prog_36_method_15_code, #[], #[]⟩
def k7m7 : Method := { name := "canGrant", desc := "(Lcom/example/acidb/acidb/engine/LockedRow$Request;)Z", sig := { parameters := [(.object "com/example/acidb/acidb/engine/LockedRow$Request")], returnType := some .boolean }, accessFlags := 2, code := some k7c7 }
def k7c8 : Code := ⟨2, 6, prog_36_method_16_code, #[], #[]⟩
def k7m8 : Method := { name := "inTheWay", desc := "(Lcom/example/acidb/acidb/engine/LockedRow$Request;)Ljava/util/List;", sig := { parameters := [(.object "com/example/acidb/acidb/engine/LockedRow$Request")], returnType := some (.object "java/util/List") }, accessFlags := 0, code := some k7c8 }
def k7c9 : Code := ⟨2, 3, prog_36_method_17_code, #[], #[]⟩
def k7m9 : Method := { name := "grant", desc := "(Lcom/example/acidb/acidb/engine/LockedRow$Request;)V", sig := { parameters := [(.object "com/example/acidb/acidb/engine/LockedRow$Request")], returnType := none }, accessFlags := 2, code := some k7c9 }
def k7c10 : Code := ⟨2, 4, prog_36_method_18_code, #[], #[]⟩
def k7m10 : Method := { name := "grantWaiting", desc := "()Z", sig := { parameters := [], returnType := some .boolean }, accessFlags := 2, code := some k7c10 }
def k7c11 : Code := ⟨2, 1, prog_36_method_19_code, #[], #[]⟩
def k7m11 : Method := { name := "tidy", desc := "()V", sig := { parameters := [], returnType := none }, accessFlags := 2, code := some k7c11 }
def k7c12 : Code := ⟨4, 1, prog_36_method_20_code, #[], #[]⟩
def k7m12 : Method := { name := "others", desc := "()Ljava/util/List;", sig := { parameters := [], returnType := some (.object "java/util/List") }, accessFlags := 2, code := some k7c12 }
def k7 : Class := { plain "com/example/acidb/acidb/engine/LockedRow" (some 0) with
  accessFlags := 48
  interfaces := #[]
  cf := some (fileOf pool7 8 #[.nestMembers #[13]] #[⟨0, 5, 168, #[]⟩, ⟨0, 171, 172, #[]⟩, ⟨0, 174, 43, #[]⟩, ⟨0, 175, 18, #[]⟩, ⟨0, 176, 70, #[]⟩, ⟨2, 17, 18, #[]⟩, ⟨2, 34, 35, #[]⟩, ⟨2, 42, 43, #[]⟩, ⟨0, 133, 134, #[]⟩, ⟨2, 46, 47, #[]⟩, ⟨2, 69, 70, #[]⟩, ⟨2, 60, 6, #[]⟩, ⟨2, 50, 51, #[]⟩] 48 2 #[] #[⟨26, 81, 74, #[]⟩, ⟨18, 11, 12, #[]⟩, ⟨2, 24, 25, #[]⟩, ⟨2, 73, 74, #[]⟩, ⟨2, 50, 63, #[]⟩])
  fields := #[⟨"REMOVED", (.array (.object "java/lang/Object")), 26, 0, 0⟩, ⟨"key", (.object "java/lang/Object"), 18, 0, 0⟩, ⟨"exclusive", (.object "com/example/acidb/acidb/engine/Transaction"), 2, 1, 0⟩, ⟨"version", (.array (.object "java/lang/Object")), 2, 2, 0⟩, ⟨"others", (.object "java/util/List"), 2, 3, 0⟩]
  methods := #[k7m0, k7m1, k7m2, k7m3, k7m4, k7m5, k7m6, k7m7, k7m8, k7m9, k7m10, k7m11, k7m12]
  instanceTypes := #[(.object "java/lang/Object"), (.object "com/example/acidb/acidb/engine/Transaction"), (.array (.object "java/lang/Object")), (.object "java/util/List")]
  staticTypes := #[(.array (.object "java/lang/Object"))]
  resolved := ((((((Array.replicate 207 none).set! 13 (some (.cls 19))).set! 19 (some (.method ⟨19, 0⟩))).set! 36 (some (.field 19 4))).set! 125 (some (.field 19 1))).set! 128 (some (.field 19 2)))
  statics := none }

def pool8 : Array CpInfo := pool [(1, .methodref 2 3), (0, .class_ 4), (0, .nameAndType 5 6), (0, u "java/lang/Object"), (0, u "<init>"), (0, u "()V"), (1, .class_ 10), (1, u "java/lang/Number"), (2, .class_ 14), (0, u "java/io/Serializable"), (0, u "serialVersionUID"), (0, u "J")] 20

def k8c0 : Code := ⟨1, 1, jdk_18_method_1_code, #[], #[]⟩
def k8m0 : Method := { name := "<init>", desc := "()V", sig := { parameters := [], returnType := none }, accessFlags := 1, code := some k8c0 }
def k8 : Class := { plain "java/lang/Number" (some 0) with
  accessFlags := 1057
  interfaces := #[4]
  cf := some (fileOf pool8 8 #[] #[⟨1, 5, 6, #[]⟩] 1057 2 #[13] #[⟨26, 15, 16, #[]⟩])
  fields := #[⟨"serialVersionUID", .long, 26, 0, 0⟩]
  methods := #[k8m0]
  instanceTypes := #[]
  staticTypes := #[.long]
  resolved := Array.replicate 37 none
  statics := none }

def pool9 : Array CpInfo := pool [(1, .class_ 2), (0, u "java/lang/constant/ConstantDesc"), (0, .class_ 4), (0, u "java/lang/Object")] 32

def k9 : Class := { plain "java/lang/constant/ConstantDesc" (some 0) with
  accessFlags := 1537
  interfaces := #[]
  cf := some (fileOf pool9 1 #[] #[] 1537 3 #[] #[])
  fields := #[]
  methods := #[]
  instanceTypes := #[]
  staticTypes := #[]
  resolved := Array.replicate 37 none
  statics := none }

def pool10 : Array CpInfo := pool [(1, .class_ 2), (0, u "java/lang/Long"), (55, .nameAndType 59 60), (0, u "<init>"), (0, u "()V"), (24, u "valueOf"), (143, u "(J)Ljava/lang/Long;"), (0, .long 18446744073709551488), (1, .long 127), (1, .fieldref 235 236), (0, .class_ 237), (0, .nameAndType 238 239), (0, u "java/lang/Long$LongCache"), (0, u "cache"), (0, u "[Ljava/lang/Long;"), (0, .methodref 1 241), (0, .nameAndType 59 242), (0, u "(J)V"), (27, .methodref 271 58), (0, .class_ 272), (0, u "java/lang/Number"), (0, .fieldref 1 274), (0, .nameAndType 275 276), (0, u "value"), (0, u "J"), (84, u "TYPE"), (0, u "Ljava/lang/Class;"), (0, .class_ 364), (0, u "java/lang/Comparable"), (0, .class_ 366), (0, u "java/lang/constant/Constable"), (0, .class_ 368), (0, u "java/lang/constant/ConstantDesc"), (0, u "MIN_VALUE"), (1, u "MAX_VALUE"), (4, u "SIZE"), (0, u "I"), (1, u "BYTES"), (1, u "serialVersionUID")] 142

def k10c0 : Code := ⟨4, 3, jdk_35_method_24_code, #[], #[]⟩
def k10m0 : Method := { name := "valueOf", desc := "(J)Ljava/lang/Long;", sig := { parameters := [.long], returnType := some (.object "java/lang/Long") }, accessFlags := 9, code := some k10c0 }
def k10c1 : Code := ⟨3, 3, jdk_35_method_26_code, #[], #[]⟩
def k10m1 : Method := { name := "<init>", desc := "(J)V", sig := { parameters := [.long], returnType := none }, accessFlags := 1, code := some k10c1 }
def k10 : Class := { plain "java/lang/Long" (some 8) with
  accessFlags := 49
  interfaces := #[3, 2, 9]
  cf := some (fileOf pool10 1 #[.nestMembers #[235]] #[⟨9, 85, 229, #[]⟩, ⟨1, 59, 242, #[]⟩] 49 271 #[363, 365, 367] #[⟨25, 369, 276, #[]⟩, ⟨25, 371, 276, #[]⟩, ⟨25, 361, 362, #[]⟩, ⟨18, 275, 276, #[]⟩, ⟨25, 376, 377, #[]⟩, ⟨25, 379, 377, #[]⟩, ⟨26, 381, 276, #[]⟩])
  fields := #[⟨"MIN_VALUE", .long, 25, 0, 0⟩, ⟨"MAX_VALUE", .long, 25, 1, 0⟩, ⟨"TYPE", (.object "java/lang/Class"), 25, 2, 0⟩, ⟨"value", .long, 18, 0, 0⟩, ⟨"SIZE", .int, 25, 3, 0⟩, ⟨"BYTES", .int, 25, 4, 0⟩, ⟨"serialVersionUID", .long, 26, 5, 0⟩]
  methods := #[k10m0, k10m1]
  instanceTypes := #[.long]
  staticTypes := #[.long, .long, (.object "java/lang/Class"), .int, .int, .long]
  resolved := Array.replicate 524 none
  statics := none }

def pool11 : Array CpInfo := pool [(2, .class_ 4), (1, u "java/lang/Object"), (0, u "<init>"), (0, u "()V"), (0, .class_ 8), (0, u "java/lang/Long"), (7, .class_ 18), (1, u "java/lang/Long$LongCache"), (0, u "$assertionsDisabled"), (0, u "Z"), (8, u "archivedCache"), (0, u "[Ljava/lang/Long;"), (7, u "cache")] 24

def k11m0 : Method := { name := "<init>", desc := "()V", sig := { parameters := [], returnType := none }, accessFlags := 2, code := none }
def k11 : Class := { plain "java/lang/Long$LongCache" (some 0) with
  accessFlags := 48
  interfaces := #[]
  cf := some (fileOf pool11 16 #[.nestHost 7] #[⟨2, 5, 6, #[]⟩] 48 2 #[] #[⟨24, 38, 30, #[]⟩, ⟨8, 29, 30, #[]⟩, ⟨4120, 19, 20, #[]⟩])
  fields := #[⟨"cache", (.array (.object "java/lang/Long")), 24, 0, 0⟩, ⟨"archivedCache", (.array (.object "java/lang/Long")), 8, 1, 0⟩, ⟨"$assertionsDisabled", .boolean, 4120, 2, 0⟩]
  methods := #[k11m0]
  instanceTypes := #[]
  staticTypes := #[(.array (.object "java/lang/Long")), (.array (.object "java/lang/Long")), .boolean]
  resolved := Array.replicate 63 none
  statics := some 1 }

def pool12 : Array CpInfo := pool [(1, .methodref 2 3), (0, .class_ 4), (0, .nameAndType 5 6), (0, u "java/lang/Object"), (0, u "<init>"), (0, u "()V"), (0, .class_ 8), (0, u "java/util/LinkedHashMap"), (0, .methodref 7 3), (0, .fieldref 11 12), (0, .class_ 13), (0, .nameAndType 14 15), (0, u "com/example/acidb/acidb/engine/Transaction"), (0, u "locked"), (0, u "Ljava/util/Map;"), (0, .fieldref 11 17), (0, .nameAndType 18 19), (0, u "number"), (0, u "J"), (0, .fieldref 11 21), (0, .nameAndType 22 23), (0, u "isolation"), (0, u "Lcom/example/acidb/acidb/engine/IsolationLevel;"), (2, u "view"), (0, u "Lcom/example/acidb/acidb/engine/ReadView;"), (2, u "committed"), (0, u "Z"), (2, u "waiting"), (0, u "Lcom/example/acidb/acidb/engine/LockedRow$Request;"), (115, u "UNNUMBERED"), (5, u "(Lcom/example/acidb/acidb/engine/IsolationLevel;)V")] 58

def k12c0 : Code := ⟨3, 2, prog_61_method_1_code, #[], #[]⟩
def k12m0 : Method := { name := "<init>", desc := "(Lcom/example/acidb/acidb/engine/IsolationLevel;)V", sig := { parameters := [(.object "com/example/acidb/acidb/engine/IsolationLevel")], returnType := none }, accessFlags := 0, code := some k12c0 }
def k12 : Class := { plain "com/example/acidb/acidb/engine/Transaction" (some 0) with
  accessFlags := 48
  interfaces := #[]
  cf := some (fileOf pool12 11 #[] #[⟨0, 5, 157, #[]⟩] 48 2 #[] #[⟨24, 151, 19, #[]⟩, ⟨18, 22, 23, #[]⟩, ⟨18, 14, 15, #[]⟩, ⟨2, 18, 19, #[]⟩, ⟨2, 26, 27, #[]⟩, ⟨2, 30, 31, #[]⟩, ⟨2, 34, 35, #[]⟩])
  fields := #[⟨"UNNUMBERED", .long, 24, 0, 0⟩, ⟨"isolation", (.object "com/example/acidb/acidb/engine/IsolationLevel"), 18, 0, 0⟩, ⟨"locked", (.object "java/util/Map"), 18, 1, 0⟩, ⟨"number", .long, 2, 2, 0⟩, ⟨"view", (.object "com/example/acidb/acidb/engine/ReadView"), 2, 3, 0⟩, ⟨"committed", .boolean, 2, 4, 0⟩, ⟨"waiting", (.object "com/example/acidb/acidb/engine/LockedRow$Request"), 2, 5, 0⟩]
  methods := #[k12m0]
  instanceTypes := #[(.object "com/example/acidb/acidb/engine/IsolationLevel"), (.object "java/util/Map"), .long, (.object "com/example/acidb/acidb/engine/ReadView"), .boolean, (.object "com/example/acidb/acidb/engine/LockedRow$Request")]
  staticTypes := #[.long]
  resolved := Array.replicate 216 none
  statics := none }

def pool13 : Array CpInfo := pool [(2, .class_ 4), (1, u "java/util/Map"), (31, .class_ 37), (0, u "java/util/Map$Entry"), (55, .class_ 94), (0, u "java/lang/Object")] 168

def k13 : Class := { plain "java/util/Map" (some 0) with
  accessFlags := 1537
  interfaces := #[]
  cf := some (fileOf pool13 2 #[.nestMembers #[36]] #[] 1537 93 #[] #[])
  fields := #[]
  methods := #[]
  instanceTypes := #[]
  staticTypes := #[]
  resolved := Array.replicate 263 none
  statics := none }

def pool14 : Array CpInfo := pool [(1, .methodref 2 3), (0, .class_ 4), (0, .nameAndType 5 6), (0, u "java/lang/Object"), (0, u "<init>"), (0, u "()V"), (1, .class_ 10), (1, u "java/util/AbstractMap"), (42, .class_ 54), (0, u "java/util/Map"), (9, u "keySet"), (0, u "Ljava/util/Set;"), (0, .class_ 67), (0, u "java/util/AbstractMap$1"), (5, u "values"), (0, u "Ljava/util/Collection;"), (0, .class_ 76), (0, u "java/util/AbstractMap$2"), (104, .class_ 182), (0, u "java/util/AbstractMap$ViewCollection"), (0, .class_ 184), (0, u "java/util/AbstractMap$SimpleImmutableEntry"), (0, .class_ 186), (0, u "java/util/AbstractMap$SimpleEntry"), (0, .class_ 188), (0, u "java/util/AbstractMap$2$1"), (0, .class_ 190), (0, u "java/util/AbstractMap$1$1")] 5

def k14c0 : Code := ⟨1, 1, jdk_71_method_1_code, #[], #[]⟩
def k14m0 : Method := { name := "<init>", desc := "()V", sig := { parameters := [], returnType := none }, accessFlags := 4, code := some k14c0 }
def k14 : Class := { plain "java/util/AbstractMap" (some 0) with
  accessFlags := 1057
  interfaces := #[13]
  cf := some (fileOf pool14 8 #[.nestMembers #[181, 183, 185, 75, 187, 66, 189]] #[⟨4, 5, 6, #[]⟩] 1057 2 #[53] #[⟨128, 64, 65, #[]⟩, ⟨128, 73, 74, #[]⟩])
  fields := #[⟨"keySet", (.object "java/util/Set"), 128, 0, 0⟩, ⟨"values", (.object "java/util/Collection"), 128, 1, 0⟩]
  methods := #[k14m0]
  instanceTypes := #[(.object "java/util/Set"), (.object "java/util/Collection")]
  staticTypes := #[]
  resolved := Array.replicate 196 none
  statics := none }

def pool15 : Array CpInfo := pool [(1, .class_ 2), (0, u "java/lang/Cloneable"), (0, .class_ 4), (0, u "java/lang/Object")] 2

def k15 : Class := { plain "java/lang/Cloneable" (some 0) with
  accessFlags := 1537
  interfaces := #[]
  cf := some (fileOf pool15 1 #[] #[] 1537 3 #[] #[])
  fields := #[]
  methods := #[]
  instanceTypes := #[]
  staticTypes := #[]
  resolved := Array.replicate 7 none
  statics := none }

def pool16 : Array CpInfo := pool [(40, .class_ 41), (0, u "java/util/HashMap"), (1, .methodref 44 45), (0, .class_ 46), (0, .nameAndType 47 48), (0, u "java/util/AbstractMap"), (0, u "<init>"), (0, u "()V"), (32, .fieldref 40 82), (0, .nameAndType 83 84), (0, u "loadFactor"), (0, u "F"), (5, u "threshold"), (0, u "I"), (0, .float 1061158912), (8, .class_ 103), (1, u "java/util/Map"), (0, u "size"), (2, u "table"), (0, u "[Ljava/util/HashMap$Node;"), (14, u "entrySet"), (39, .class_ 165), (1, u "java/util/HashMap$Node"), (14, .class_ 181), (0, u "java/util/HashMap$TreeNode"), (22, u "modCount"), (37, u "Ljava/util/Set;"), (0, .class_ 244), (0, u "java/util/HashMap$KeySet"), (18, .class_ 264), (0, u "java/util/HashMap$Values"), (3, .class_ 269), (0, u "java/util/HashMap$EntrySet"), (76, .class_ 348), (1, u "java/util/HashMap$UnsafeHolder"), (43, .class_ 393), (0, u "java/lang/Cloneable"), (0, .class_ 395), (0, u "java/io/Serializable"), (0, u "serialVersionUID"), (0, u "J"), (3, u "DEFAULT_INITIAL_CAPACITY"), (1, u "MAXIMUM_CAPACITY"), (0, u "DEFAULT_LOAD_FACTOR"), (0, u "TREEIFY_THRESHOLD"), (1, u "UNTREEIFY_THRESHOLD"), (1, u "MIN_TREEIFY_CAPACITY"), (186, .class_ 597), (0, u "java/util/HashMap$EntrySpliterator"), (0, .class_ 599), (0, u "java/util/HashMap$ValueSpliterator"), (0, .class_ 601), (0, u "java/util/HashMap$KeySpliterator"), (0, .class_ 603), (0, u "java/util/HashMap$HashMapSpliterator"), (0, .class_ 605), (0, u "java/util/HashMap$EntryIterator"), (0, .class_ 607), (0, u "java/util/HashMap$ValueIterator"), (0, .class_ 609), (0, u "java/util/HashMap$KeyIterator"), (0, .class_ 611), (0, u "java/util/HashMap$HashIterator")] 17

def k16c0 : Code := ⟨2, 1, jdk_69_method_7_code, #[], #[]⟩
def k16m0 : Method := { name := "<init>", desc := "()V", sig := { parameters := [], returnType := none }, accessFlags := 1, code := some k16c0 }
def k16 : Class := { plain "java/util/HashMap" (some 14) with
  accessFlags := 33
  interfaces := #[13, 15, 4]
  cf := some (fileOf pool16 40 #[.nestMembers #[180, 596, 598, 600, 602, 604, 606, 608, 610, 346, 268, 263, 243, 163]] #[⟨1, 47, 48, #[]⟩] 33 44 #[101, 392, 394] #[⟨26, 396, 397, #[]⟩, ⟨24, 401, 91, #[]⟩, ⟨24, 403, 91, #[]⟩, ⟨24, 404, 84, #[]⟩, ⟨24, 405, 91, #[]⟩, ⟨24, 407, 91, #[]⟩, ⟨24, 409, 91, #[]⟩, ⟨128, 107, 108, #[]⟩, ⟨128, 123, 242, #[]⟩, ⟨128, 104, 91, #[]⟩, ⟨128, 204, 91, #[]⟩, ⟨0, 90, 91, #[]⟩, ⟨16, 83, 84, #[]⟩])
  fields := #[⟨"serialVersionUID", .long, 26, 0, 0⟩, ⟨"DEFAULT_INITIAL_CAPACITY", .int, 24, 1, 0⟩, ⟨"MAXIMUM_CAPACITY", .int, 24, 2, 0⟩, ⟨"DEFAULT_LOAD_FACTOR", .float, 24, 3, 0⟩, ⟨"TREEIFY_THRESHOLD", .int, 24, 4, 0⟩, ⟨"UNTREEIFY_THRESHOLD", .int, 24, 5, 0⟩, ⟨"MIN_TREEIFY_CAPACITY", .int, 24, 6, 0⟩, ⟨"table", (.array (.object "java/util/HashMap$Node")), 128, 2, 0⟩, ⟨"entrySet", (.object "java/util/Set"), 128, 3, 0⟩, ⟨"size", .int, 128, 4, 0⟩, ⟨"modCount", .int, 128, 5, 0⟩, ⟨"threshold", .int, 0, 6, 0⟩, ⟨"loadFactor", .float, 16, 7, 0⟩]
  methods := #[k16m0]
  instanceTypes := #[(.object "java/util/Set"), (.object "java/util/Collection"), (.array (.object "java/util/HashMap$Node")), (.object "java/util/Set"), .int, .int, .int, .float]
  staticTypes := #[.long, .int, .int, .float, .int, .int, .int]
  resolved := Array.replicate 629 none
  statics := none }

def pool17 : Array CpInfo := pool [(2, .class_ 4), (1, u "java/util/SequencedMap"), (38, .class_ 44), (0, u "java/util/SequencedMap$1SeqKeySet"), (3, .class_ 49), (0, u "java/util/SequencedMap$1SeqValues"), (1, .class_ 52), (0, u "java/util/SequencedMap$1SeqEntrySet"), (1, .class_ 55), (0, u "java/lang/Object"), (0, .class_ 57), (0, u "java/util/Map")] 48

def k17 : Class := { plain "java/util/SequencedMap" (some 0) with
  accessFlags := 1537
  interfaces := #[13]
  cf := some (fileOf pool17 2 #[.nestMembers #[51, 48, 43]] #[] 1537 54 #[56] #[])
  fields := #[]
  methods := #[]
  instanceTypes := #[]
  staticTypes := #[]
  resolved := Array.replicate 106 none
  statics := none }

def pool18 : Array CpInfo := pool [(1, .fieldref 2 3), (0, .class_ 4), (0, .nameAndType 5 6), (0, u "java/util/LinkedHashMap"), (0, u "putMode"), (0, u "I"), (2, u "head"), (0, u "Ljava/util/LinkedHashMap$Entry;"), (2, u "tail"), (1, .class_ 17), (1, u "java/util/LinkedHashMap$Entry"), (5, .class_ 25), (1, u "java/util/HashMap"), (1, u "()V"), (2, u "<init>"), (33, .fieldref 2 65), (0, .nameAndType 66 67), (0, u "accessOrder"), (0, u "Z"), (19, .methodref 23 88), (0, .nameAndType 30 27), (32, .class_ 122), (0, u "java/util/LinkedHashMap$LinkedKeySet"), (20, .class_ 144), (0, u "java/util/LinkedHashMap$LinkedValues"), (9, .class_ 155), (0, u "java/util/LinkedHashMap$LinkedEntrySet"), (44, .class_ 201), (0, u "java/util/LinkedHashMap$ReversedLinkedHashMapView"), (3, .class_ 206), (0, u "java/util/SequencedMap"), (0, u "serialVersionUID"), (0, u "J"), (5, u "PUT_NORM"), (1, u "PUT_FIRST"), (1, u "PUT_LAST"), (143, .class_ 363), (0, u "java/util/LinkedHashMap$LinkedEntryIterator"), (0, .class_ 365), (0, u "java/util/LinkedHashMap$LinkedValueIterator"), (0, .class_ 367), (0, u "java/util/LinkedHashMap$LinkedKeyIterator"), (0, .class_ 369), (0, u "java/util/LinkedHashMap$LinkedHashIterator")] 16

def k18c0 : Code := ⟨2, 1, jdk_94_method_16_code, #[], #[]⟩
def k18m0 : Method := { name := "<init>", desc := "()V", sig := { parameters := [], returnType := none }, accessFlags := 1, code := some k18c0 }
def k18 : Class := { plain "java/util/LinkedHashMap" (some 16) with
  accessFlags := 33
  interfaces := #[17]
  cf := some (fileOf pool18 2 #[.nestMembers #[200, 362, 364, 366, 368, 154, 143, 121, 15]] #[⟨1, 30, 27, #[]⟩] 33 23 #[205] #[⟨26, 207, 208, #[]⟩, ⟨128, 9, 10, #[]⟩, ⟨128, 13, 10, #[]⟩, ⟨16, 66, 67, #[]⟩, ⟨24, 214, 6, #[]⟩, ⟨24, 216, 6, #[]⟩, ⟨24, 218, 6, #[]⟩, ⟨128, 5, 6, #[]⟩])
  fields := #[⟨"serialVersionUID", .long, 26, 0, 0⟩, ⟨"head", (.object "java/util/LinkedHashMap$Entry"), 128, 8, 0⟩, ⟨"tail", (.object "java/util/LinkedHashMap$Entry"), 128, 9, 0⟩, ⟨"accessOrder", .boolean, 16, 10, 0⟩, ⟨"PUT_NORM", .int, 24, 1, 0⟩, ⟨"PUT_FIRST", .int, 24, 2, 0⟩, ⟨"PUT_LAST", .int, 24, 3, 0⟩, ⟨"putMode", .int, 128, 11, 0⟩]
  methods := #[k18m0]
  instanceTypes := #[(.object "java/util/Set"), (.object "java/util/Collection"), (.array (.object "java/util/HashMap$Node")), (.object "java/util/Set"), .int, .int, .int, .float, (.object "java/util/LinkedHashMap$Entry"), (.object "java/util/LinkedHashMap$Entry"), .boolean, .int]
  staticTypes := #[.long, .int, .int, .int]
  resolved := Array.replicate 386 none
  statics := none }

def pool19 : Array CpInfo := pool [(1, .methodref 2 3), (0, .class_ 4), (0, .nameAndType 5 6), (0, u "java/lang/Object"), (0, u "<init>"), (0, u "()V"), (0, .fieldref 8 9), (0, .class_ 10), (0, .nameAndType 11 12), (0, u "com/example/acidb/acidb/engine/LockedRow$Request"), (0, u "row"), (0, u "Lcom/example/acidb/acidb/engine/LockedRow;"), (0, .fieldref 8 14), (0, .nameAndType 15 16), (0, u "transaction"), (0, u "Lcom/example/acidb/acidb/engine/Transaction;"), (0, .fieldref 8 18), (0, .nameAndType 19 20), (0, u "mode"), (0, u "Lcom/example/acidb/acidb/sql/LockMode;"), (0, .fieldref 8 22), (0, .nameAndType 23 24), (0, u "first"), (0, u "Z"), (2, u "granted"), (0, u "(Lcom/example/acidb/acidb/engine/LockedRow;Lcom/example/acidb/acidb/engine/Transaction;Lcom/example/acidb/acidb/sql/LockMode;Z)V"), (9, .class_ 39), (0, u "com/example/acidb/acidb/engine/LockedRow")] 2

def k19c0 : Code := ⟨2, 5, prog_37_method_1_code, #[], #[]⟩
def k19m0 : Method := { name := "<init>", desc := "(Lcom/example/acidb/acidb/engine/LockedRow;Lcom/example/acidb/acidb/engine/Transaction;Lcom/example/acidb/acidb/sql/LockMode;Z)V", sig := { parameters := [(.object "com/example/acidb/acidb/engine/LockedRow"), (.object "com/example/acidb/acidb/engine/Transaction"), (.object "com/example/acidb/acidb/sql/LockMode"), .boolean], returnType := none }, accessFlags := 2, code := some k19c0 }
def k19 : Class := { plain "com/example/acidb/acidb/engine/LockedRow$Request" (some 0) with
  accessFlags := 48
  interfaces := #[]
  cf := some (fileOf pool19 8 #[.nestHost 38] #[⟨2, 5, 28, #[]⟩] 48 2 #[] #[⟨18, 11, 12, #[]⟩, ⟨18, 15, 16, #[]⟩, ⟨18, 19, 20, #[]⟩, ⟨18, 23, 24, #[]⟩, ⟨2, 27, 24, #[]⟩])
  fields := #[⟨"row", (.object "com/example/acidb/acidb/engine/LockedRow"), 18, 0, 0⟩, ⟨"transaction", (.object "com/example/acidb/acidb/engine/Transaction"), 18, 1, 0⟩, ⟨"mode", (.object "com/example/acidb/acidb/sql/LockMode"), 18, 2, 0⟩, ⟨"first", .boolean, 18, 3, 0⟩, ⟨"granted", .boolean, 2, 4, 0⟩]
  methods := #[k19m0]
  instanceTypes := #[(.object "com/example/acidb/acidb/engine/LockedRow"), (.object "com/example/acidb/acidb/engine/Transaction"), (.object "com/example/acidb/acidb/sql/LockMode"), .boolean, .boolean]
  staticTypes := #[]
  resolved := Array.replicate 42 none
  statics := none }

def pool20 : Array CpInfo := pool [(8, .class_ 10), (1, u "java/lang/Iterable"), (24, .class_ 36), (0, u "java/lang/Object")] 25

def k20 : Class := { plain "java/lang/Iterable" (some 0) with
  accessFlags := 1537
  interfaces := #[]
  cf := some (fileOf pool20 8 #[] #[] 1537 35 #[] #[])
  fields := #[]
  methods := #[]
  instanceTypes := #[]
  staticTypes := #[]
  resolved := Array.replicate 62 none
  statics := none }

def pool21 : Array CpInfo := pool [(10, .class_ 12), (1, u "java/util/Collection"), (0, u "toArray"), (16, u "()Z"), (29, .class_ 61), (0, u "java/lang/Object"), (0, .class_ 63), (0, u "java/lang/Iterable"), (2, u "isEmpty"), (3, u "()[Ljava/lang/Object;")] 44

def k21m0 : Method := { name := "isEmpty", desc := "()Z", sig := { parameters := [], returnType := some .boolean }, accessFlags := 1025, code := none }
def k21m1 : Method := { name := "toArray", desc := "()[Ljava/lang/Object;", sig := { parameters := [], returnType := some (.array (.object "java/lang/Object")) }, accessFlags := 1025, code := none }
def k21 : Class := { plain "java/util/Collection" (some 0) with
  accessFlags := 1537
  interfaces := #[20]
  cf := some (fileOf pool21 10 #[] #[⟨1025, 66, 30, #[]⟩, ⟨1025, 13, 70, #[]⟩] 1537 60 #[62] #[])
  fields := #[]
  methods := #[k21m0, k21m1]
  instanceTypes := #[]
  staticTypes := #[]
  resolved := Array.replicate 115 none
  statics := none }

def pool22 : Array CpInfo := pool [(1, .methodref 2 3), (0, .class_ 4), (0, .nameAndType 5 6), (0, u "java/lang/Object"), (0, u "<init>"), (0, u "()V"), (1, .class_ 10), (1, u "java/util/AbstractCollection"), (0, u "size"), (0, u "()I"), (64, .class_ 78), (0, u "java/util/Collection")] 81

def k22c0 : Code := ⟨1, 1, jdk_22_method_1_code, #[], #[]⟩
def k22m0 : Method := { name := "<init>", desc := "()V", sig := { parameters := [], returnType := none }, accessFlags := 4, code := some k22c0 }
def k22m1 : Method := { name := "size", desc := "()I", sig := { parameters := [], returnType := some .int }, accessFlags := 1025, code := none }
def k22 : Class := { plain "java/util/AbstractCollection" (some 0) with
  accessFlags := 1057
  interfaces := #[21]
  cf := some (fileOf pool22 8 #[] #[⟨4, 5, 6, #[]⟩, ⟨1025, 11, 12, #[]⟩] 1057 2 #[77] #[])
  fields := #[]
  methods := #[k22m0, k22m1]
  instanceTypes := #[]
  staticTypes := #[]
  resolved := Array.replicate 160 none
  statics := none }

def pool23 : Array CpInfo := pool [(8, .class_ 10), (1, u "java/util/SequencedCollection"), (15, .class_ 27), (0, u "java/lang/Object"), (0, .class_ 29), (0, u "java/util/Collection")] 27

def k23 : Class := { plain "java/util/SequencedCollection" (some 0) with
  accessFlags := 1537
  interfaces := #[21]
  cf := some (fileOf pool23 8 #[] #[] 1537 26 #[28] #[])
  fields := #[]
  methods := #[]
  instanceTypes := #[]
  staticTypes := #[]
  resolved := Array.replicate 57 none
  statics := none }

def pool24 : Array CpInfo := pool [(8, .class_ 10), (1, u "java/util/List"), (7, u "()Z"), (12, u "(Ljava/lang/Object;)V"), (16, u "<init>"), (11, u "add"), (3, u "(Ljava/lang/Object;)Z"), (2, u "isEmpty"), (7, u "get"), (0, u "(I)Ljava/lang/Object;"), (2, u "size"), (0, u "()I"), (2, u "remove"), (4, u "of"), (1, .fieldref 91 92), (0, .class_ 93), (0, .nameAndType 94 95), (0, u "java/util/ImmutableCollections"), (0, u "EMPTY_LIST"), (0, u "Ljava/util/ImmutableCollections$ListN;"), (0, .class_ 97), (0, u "java/util/ImmutableCollections$List12"), (0, .methodref 96 99), (0, .nameAndType 48 31), (0, .methodref 96 101), (0, .nameAndType 48 102), (0, u "(Ljava/lang/Object;Ljava/lang/Object;)V"), (0, .class_ 104), (0, u "java/lang/Object"), (3, u "([Ljava/lang/Object;)Ljava/util/List;"), (3, .methodref 91 113), (0, .nameAndType 114 115), (0, u "listCopy"), (0, u "(Ljava/util/Collection;)Ljava/util/List;"), (3, u "()Ljava/util/List;"), (0, .class_ 121), (0, u "java/util/SequencedCollection"), (0, u "contains"), (0, u "iterator"), (0, u "()Ljava/util/Iterator;"), (109, u "copyOf")] 16

def k24m0 : Method := { name := "size", desc := "()I", sig := { parameters := [], returnType := some .int }, accessFlags := 1025, code := none }
def k24m1 : Method := { name := "isEmpty", desc := "()Z", sig := { parameters := [], returnType := some .boolean }, accessFlags := 1025, code := none }
def k24m2 : Method := { name := "contains", desc := "(Ljava/lang/Object;)Z", sig := { parameters := [(.object "java/lang/Object")], returnType := some .boolean }, accessFlags := 1025, code := none }
def k24m3 : Method := { name := "iterator", desc := "()Ljava/util/Iterator;", sig := { parameters := [], returnType := some (.object "java/util/Iterator") }, accessFlags := 1025, code := none }
def k24m4 : Method := { name := "add", desc := "(Ljava/lang/Object;)Z", sig := { parameters := [(.object "java/lang/Object")], returnType := some .boolean }, accessFlags := 1025, code := none }
def k24m5 : Method := { name := "remove", desc := "(Ljava/lang/Object;)Z", sig := { parameters := [(.object "java/lang/Object")], returnType := some .boolean }, accessFlags := 1025, code := none }
def k24m6 : Method := { name := "get", desc := "(I)Ljava/lang/Object;", sig := { parameters := [.int], returnType := some (.object "java/lang/Object") }, accessFlags := 1025, code := none }
def k24c7 : Code := ⟨1, 0, jdk_40_method_36_code, #[], #[]⟩
def k24m7 : Method := { name := "of", desc := "()Ljava/util/List;", sig := { parameters := [], returnType := some (.object "java/util/List") }, accessFlags := 9, code := some k24c7 }
def k24c8 : Code := ⟨5, 2, jdk_40_method_47_code, #[], #[]⟩
def k24m8 : Method := { name := "of", desc := "([Ljava/lang/Object;)Ljava/util/List;", sig := { parameters := [(.array (.object "java/lang/Object"))], returnType := some (.object "java/util/List") }, accessFlags := 137, code := some k24c8 }
def k24c9 : Code := ⟨1, 1, jdk_40_method_48_code, #[], #[]⟩
def k24m9 : Method := { name := "copyOf", desc := "(Ljava/util/Collection;)Ljava/util/List;", sig := { parameters := [(.object "java/util/Collection")], returnType := some (.object "java/util/List") }, accessFlags := 9, code := some k24c9 }
def k24 : Class := { plain "java/util/List" (some 0) with
  accessFlags := 1537
  interfaces := #[23]
  cf := some (fileOf pool24 8 #[] #[⟨1025, 79, 80, #[]⟩, ⟨1025, 67, 18, #[]⟩, ⟨1025, 122, 64, #[]⟩, ⟨1025, 123, 124, #[]⟩, ⟨1025, 60, 64, #[]⟩, ⟨1025, 83, 64, #[]⟩, ⟨1025, 75, 76, #[]⟩, ⟨9, 88, 119, #[]⟩, ⟨137, 88, 108, #[]⟩, ⟨9, 234, 115, #[]⟩] 1537 103 #[120] #[])
  fields := #[]
  methods := #[k24m0, k24m1, k24m2, k24m3, k24m4, k24m5, k24m6, k24m7, k24m8, k24m9]
  instanceTypes := #[]
  staticTypes := #[]
  resolved := Array.replicate 251 none
  statics := none }

def pool25 : Array CpInfo := pool [(1, .methodref 2 3), (0, .class_ 4), (0, .nameAndType 5 6), (0, u "java/util/AbstractCollection"), (0, u "<init>"), (0, u "()V"), (0, .fieldref 8 9), (0, .class_ 10), (0, .nameAndType 11 12), (0, u "java/util/AbstractList"), (0, u "modCount"), (0, u "I"), (64, .class_ 78), (0, u "java/util/AbstractList$Itr"), (3, .class_ 83), (0, u "java/util/AbstractList$ListItr"), (9, .class_ 94), (0, u "java/util/AbstractList$RandomAccessSubList"), (3, .class_ 99), (0, u "java/util/AbstractList$SubList"), (33, .class_ 134), (0, u "java/util/List"), (73, .class_ 209), (0, u "java/util/AbstractList$SubList$1"), (0, .class_ 211), (0, u "java/util/AbstractList$RandomAccessSpliterator")] 6

def k25c0 : Code := ⟨2, 1, jdk_39_method_1_code, #[], #[]⟩
def k25m0 : Method := { name := "<init>", desc := "()V", sig := { parameters := [], returnType := none }, accessFlags := 4, code := some k25c0 }
def k25 : Class := { plain "java/util/AbstractList" (some 22) with
  accessFlags := 1057
  interfaces := #[24]
  cf := some (fileOf pool25 8 #[.nestMembers #[93, 98, 208, 210, 82, 77]] #[⟨4, 5, 6, #[]⟩] 1057 2 #[133] #[⟨132, 11, 12, #[]⟩])
  fields := #[⟨"modCount", .int, 132, 0, 0⟩]
  methods := #[k25m0]
  instanceTypes := #[.int]
  staticTypes := #[]
  resolved := Array.replicate 218 none
  statics := none }

def pool26 : Array CpInfo := pool [(1, .class_ 2), (0, u "java/util/RandomAccess"), (0, .class_ 4), (0, u "java/lang/Object")] 2

def k26 : Class := { plain "java/util/RandomAccess" (some 0) with
  accessFlags := 1537
  interfaces := #[]
  cf := some (fileOf pool26 1 #[] #[] 1537 3 #[] #[])
  fields := #[]
  methods := #[]
  instanceTypes := #[]
  staticTypes := #[]
  resolved := Array.replicate 7 none
  statics := none }

def pool27 : Array CpInfo := pool [(1, .methodref 2 3), (0, .class_ 4), (0, .nameAndType 5 6), (0, u "java/util/AbstractList"), (0, u "<init>"), (0, u "()V"), (0, .class_ 8), (0, u "java/lang/Object"), (0, .fieldref 10 11), (0, .class_ 12), (0, .nameAndType 13 14), (0, u "java/util/ArrayList"), (0, u "elementData"), (0, u "[Ljava/lang/Object;"), (2, u "EMPTY_ELEMENTDATA"), (21, .fieldref 10 40), (0, .nameAndType 41 14), (0, u "DEFAULTCAPACITY_EMPTY_ELEMENTDATA"), (4, u "toArray"), (0, u "()[Ljava/lang/Object;"), (0, .fieldref 10 49), (0, .nameAndType 50 51), (0, u "size"), (0, u "I"), (6, .class_ 60), (1, u "java/util/Arrays"), (0, u "copyOf"), (1, .fieldref 10 64), (0, .nameAndType 65 51), (0, u "modCount"), (0, .methodref 58 67), (0, .nameAndType 61 68), (0, u "([Ljava/lang/Object;I)[Ljava/lang/Object;"), (0, .methodref 10 70), (0, .nameAndType 71 72), (0, u "grow"), (0, u "(I)[Ljava/lang/Object;"), (6, .methodref 80 81), (0, .class_ 82), (0, .nameAndType 83 84), (0, u "java/lang/Math"), (0, u "max"), (0, u "(II)I"), (0, .methodref 10 86), (0, .nameAndType 87 88), (0, u "indexOf"), (0, u "(Ljava/lang/Object;)I"), (0, .methodref 10 90), (0, .nameAndType 91 92), (0, u "indexOfRange"), (0, u "(Ljava/lang/Object;II)I"), (0, .methodref 7 94), (0, .nameAndType 95 96), (0, u "equals"), (0, u "(Ljava/lang/Object;)Z"), (15, .methodref 113 114), (0, .class_ 115), (0, .nameAndType 116 117), (0, u "java/lang/System"), (0, u "arraycopy"), (0, u "(Ljava/lang/Object;ILjava/lang/Object;II)V"), (0, .methodref 119 120), (0, .class_ 121), (0, .nameAndType 122 84), (0, u "java/util/Objects"), (0, u "checkIndex"), (0, .methodref 10 124), (0, .nameAndType 13 125), (0, u "(I)Ljava/lang/Object;"), (3, .methodref 10 130), (0, .nameAndType 71 47), (0, .methodref 10 132), (0, .nameAndType 133 134), (0, u "add"), (0, u "(Ljava/lang/Object;[Ljava/lang/Object;I)V"), (3, u "(I)V"), (5, .methodref 10 145), (0, .nameAndType 146 147), (0, u "fastRemove"), (0, u "([Ljava/lang/Object;I)V"), (0, .class_ 149), (0, u "java/util/List"), (16, u "iterator"), (0, u "()Ljava/util/Iterator;"), (5, u "()Z"), (12, u "()I"), (32, u "contains"), (42, .class_ 263), (0, u "java/util/ArrayList$ListItr"), (3, .class_ 268), (0, u "java/util/ArrayList$Itr"), (0, .methodref 267 270), (0, .nameAndType 5 271), (0, u "(Ljava/util/ArrayList;)V"), (4, .class_ 277), (0, u "java/util/ArrayList$SubList"), (12, .class_ 291), (0, u "java/util/ArrayList$ArrayListSpliterator"), (37, .class_ 330), (0, u "java/util/RandomAccess"), (0, .class_ 332), (0, u "java/lang/Cloneable"), (0, .class_ 334), (0, u "java/io/Serializable"), (0, u "serialVersionUID"), (0, u "J"), (3, u "DEFAULT_CAPACITY"), (22, u "isEmpty"), (17, u "get"), (17, u "remove"), (100, .class_ 501), (0, u "java/util/ArrayList$SubList$2"), (0, .class_ 503), (0, u "java/util/ArrayList$SubList$1")] 5

def k27c0 : Code := ⟨4, 2, jdk_38_method_1_code, #[], #[]⟩
def k27m0 : Method := { name := "<init>", desc := "(I)V", sig := { parameters := [.int], returnType := none }, accessFlags := 1, code := some k27c0 }
def k27c1 : Code := ⟨2, 1, jdk_38_method_2_code, #[], #[]⟩
def k27m1 : Method := { name := "<init>", desc := "()V", sig := { parameters := [], returnType := none }, accessFlags := 1, code := some k27c1 }
def k27c2 : Code := ⟨4, 4, jdk_38_method_6_code, #[], #[]⟩
def k27m2 : Method := { name := "grow", desc := "(I)[Ljava/lang/Object;", sig := { parameters := [.int], returnType := some (.array (.object "java/lang/Object")) }, accessFlags := 2, code := some k27c2 }
def k27c3 : Code := ⟨3, 1, jdk_38_method_7_code, #[], #[]⟩
def k27m3 : Method := { name := "grow", desc := "()[Ljava/lang/Object;", sig := { parameters := [], returnType := some (.array (.object "java/lang/Object")) }, accessFlags := 2, code := some k27c3 }
def k27c4 : Code := ⟨1, 1, jdk_38_method_8_code, #[], #[]⟩
def k27m4 : Method := { name := "size", desc := "()I", sig := { parameters := [], returnType := some .int }, accessFlags := 1, code := some k27c4 }
def k27c5 : Code := ⟨1, 1, jdk_38_method_9_code, #[], #[]⟩
def k27m5 : Method := { name := "isEmpty", desc := "()Z", sig := { parameters := [], returnType := some .boolean }, accessFlags := 1, code := some k27c5 }
def k27c6 : Code := ⟨2, 2, jdk_38_method_10_code, #[], #[]⟩
def k27m6 : Method := { name := "contains", desc := "(Ljava/lang/Object;)Z", sig := { parameters := [(.object "java/lang/Object")], returnType := some .boolean }, accessFlags := 1, code := some k27c6 }
def k27c7 : Code := ⟨4, 2, jdk_38_method_11_code, #[], #[]⟩
def k27m7 : Method := { name := "indexOf", desc := "(Ljava/lang/Object;)I", sig := { parameters := [(.object "java/lang/Object")], returnType := some .int }, accessFlags := 1, code := some k27c7 }
def k27c8 : Code := ⟨3, 6, jdk_38_method_12_code, #[], #[]⟩
def k27m8 : Method := { name := "indexOfRange", desc := "(Ljava/lang/Object;II)I", sig := { parameters := [(.object "java/lang/Object"), .int, .int], returnType := some .int }, accessFlags := 0, code := some k27c8 }
def k27c9 : Code := ⟨2, 1, jdk_38_method_16_code, #[], #[]⟩
def k27m9 : Method := { name := "toArray", desc := "()[Ljava/lang/Object;", sig := { parameters := [], returnType := some (.array (.object "java/lang/Object")) }, accessFlags := 1, code := some k27c9 }
def k27c10 : Code := ⟨2, 2, jdk_38_method_18_code, #[], #[]⟩
def k27m10 : Method := { name := "elementData", desc := "(I)Ljava/lang/Object;", sig := { parameters := [.int], returnType := some (.object "java/lang/Object") }, accessFlags := 0, code := some k27c10 }
def k27c11 : Code := ⟨2, 2, jdk_38_method_20_code, #[], #[]⟩
def k27m11 : Method := { name := "get", desc := "(I)Ljava/lang/Object;", sig := { parameters := [.int], returnType := some (.object "java/lang/Object") }, accessFlags := 1, code := some k27c11 }
def k27c12 : Code := ⟨3, 4, jdk_38_method_24_code, #[], #[]⟩
def k27m12 : Method := { name := "add", desc := "(Ljava/lang/Object;[Ljava/lang/Object;I)V", sig := { parameters := [(.object "java/lang/Object"), (.array (.object "java/lang/Object")), .int], returnType := none }, accessFlags := 2, code := some k27c12 }
def k27c13 : Code := ⟨4, 2, jdk_38_method_25_code, #[], #[]⟩
def k27m13 : Method := { name := "add", desc := "(Ljava/lang/Object;)Z", sig := { parameters := [(.object "java/lang/Object")], returnType := some .boolean }, accessFlags := 1, code := some k27c13 }
def k27c14 : Code := ⟨3, 5, jdk_38_method_38_code, #[], #[]⟩
def k27m14 : Method := { name := "remove", desc := "(Ljava/lang/Object;)Z", sig := { parameters := [(.object "java/lang/Object")], returnType := some .boolean }, accessFlags := 1, code := some k27c14 }
def k27c15 : Code := ⟨6, 4, jdk_38_method_39_code, #[], #[]⟩
def k27m15 : Method := { name := "fastRemove", desc := "([Ljava/lang/Object;I)V", sig := { parameters := [(.array (.object "java/lang/Object")), .int], returnType := none }, accessFlags := 2, code := some k27c15 }
def k27c16 : Code := ⟨3, 1, jdk_38_method_55_code, #[], #[]⟩
def k27m16 : Method := { name := "iterator", desc := "()Ljava/util/Iterator;", sig := { parameters := [], returnType := some (.object "java/util/Iterator") }, accessFlags := 1, code := some k27c16 }
def k27 : Class := { plain "java/util/ArrayList" (some 25) with
  accessFlags := 33
  interfaces := #[24, 26, 15, 4]
  cf := some (fileOf pool27 10 #[.nestMembers #[290, 276, 500, 502, 262, 267]] #[⟨1, 5, 138, #[]⟩, ⟨1, 5, 6, #[]⟩, ⟨2, 71, 72, #[]⟩, ⟨2, 71, 47, #[]⟩, ⟨1, 50, 186, #[]⟩, ⟨1, 363, 173, #[]⟩, ⟨1, 219, 96, #[]⟩, ⟨1, 87, 88, #[]⟩, ⟨0, 91, 92, #[]⟩, ⟨1, 46, 47, #[]⟩, ⟨0, 13, 125, #[]⟩, ⟨1, 381, 125, #[]⟩, ⟨2, 133, 134, #[]⟩, ⟨1, 133, 96, #[]⟩, ⟨1, 399, 96, #[]⟩, ⟨2, 146, 147, #[]⟩, ⟨1, 166, 167, #[]⟩] 33 2 #[148, 329, 331, 333] #[⟨26, 335, 336, #[]⟩, ⟨26, 340, 51, #[]⟩, ⟨26, 17, 14, #[]⟩, ⟨26, 41, 14, #[]⟩, ⟨128, 13, 14, #[]⟩, ⟨2, 50, 51, #[]⟩])
  fields := #[⟨"serialVersionUID", .long, 26, 0, 0⟩, ⟨"DEFAULT_CAPACITY", .int, 26, 1, 0⟩, ⟨"EMPTY_ELEMENTDATA", (.array (.object "java/lang/Object")), 26, 2, 0⟩, ⟨"DEFAULTCAPACITY_EMPTY_ELEMENTDATA", (.array (.object "java/lang/Object")), 26, 3, 0⟩, ⟨"elementData", (.array (.object "java/lang/Object")), 128, 1, 0⟩, ⟨"size", .int, 2, 2, 0⟩]
  methods := #[k27m0, k27m1, k27m2, k27m3, k27m4, k27m5, k27m6, k27m7, k27m8, k27m9, k27m10, k27m11, k27m12, k27m13, k27m14, k27m15, k27m16]
  instanceTypes := #[.int, (.array (.object "java/lang/Object")), .int]
  staticTypes := #[.long, .int, (.array (.object "java/lang/Object")), (.array (.object "java/lang/Object"))]
  resolved := Array.replicate 509 none
  statics := some 2 }

def pool28 : Array CpInfo := pool [(16, .class_ 18), (1, u "java/util/Iterator"), (0, u "hasNext"), (0, u "()Z"), (2, u "next"), (0, u "()Ljava/lang/Object;"), (6, .class_ 32), (0, u "java/lang/Object")] 20

def k28m0 : Method := { name := "hasNext", desc := "()Z", sig := { parameters := [], returnType := some .boolean }, accessFlags := 1025, code := none }
def k28m1 : Method := { name := "next", desc := "()Ljava/lang/Object;", sig := { parameters := [], returnType := some (.object "java/lang/Object") }, accessFlags := 1025, code := none }
def k28 : Class := { plain "java/util/Iterator" (some 0) with
  accessFlags := 1537
  interfaces := #[]
  cf := some (fileOf pool28 16 #[] #[⟨1025, 19, 20, #[]⟩, ⟨1025, 23, 24, #[]⟩] 1537 31 #[] #[])
  fields := #[]
  methods := #[k28m0, k28m1]
  instanceTypes := #[]
  staticTypes := #[]
  resolved := Array.replicate 53 none
  statics := none }

def pool29 : Array CpInfo := pool [(1, .fieldref 2 3), (0, .class_ 4), (0, .nameAndType 5 6), (0, u "java/util/ArrayList$Itr"), (0, u "this$0"), (0, u "Ljava/util/ArrayList;"), (0, .methodref 8 9), (0, .class_ 10), (0, .nameAndType 11 12), (0, u "java/lang/Object"), (0, u "<init>"), (0, u "()V"), (0, .fieldref 2 14), (0, .nameAndType 15 16), (0, u "lastRet"), (0, u "I"), (0, .fieldref 18 19), (0, .class_ 20), (0, .nameAndType 21 16), (0, u "java/util/ArrayList"), (0, u "modCount"), (0, .fieldref 2 23), (0, .nameAndType 24 16), (0, u "expectedModCount"), (0, .fieldref 2 26), (0, .nameAndType 27 16), (0, u "cursor"), (0, .fieldref 18 29), (0, .nameAndType 30 16), (0, u "size"), (0, .methodref 2 32), (0, .nameAndType 33 12), (0, u "checkForComodification"), (3, .fieldref 18 38), (0, .nameAndType 39 40), (0, u "elementData"), (0, u "[Ljava/lang/Object;"), (28, .class_ 70), (0, u "java/util/Iterator"), (0, u "(Ljava/util/ArrayList;)V"), (8, u "hasNext"), (0, u "()Z"), (1, u "next"), (0, u "()Ljava/lang/Object;")] 19

def k29c0 : Code := ⟨2, 2, jdk_49_method_1_code, #[], #[]⟩
def k29m0 : Method := { name := "<init>", desc := "(Ljava/util/ArrayList;)V", sig := { parameters := [(.object "java/util/ArrayList")], returnType := none }, accessFlags := 0, code := some k29c0 }
def k29c1 : Code := ⟨2, 1, jdk_49_method_2_code, #[], #[]⟩
def k29m1 : Method := { name := "hasNext", desc := "()Z", sig := { parameters := [], returnType := some .boolean }, accessFlags := 1, code := some k29c1 }
def k29c2 : Code := ⟨4, 3, jdk_49_method_3_code, #[], #[]⟩
def k29m2 : Method := { name := "next", desc := "()Ljava/lang/Object;", sig := { parameters := [], returnType := some (.object "java/lang/Object") }, accessFlags := 1, code := some k29c2 }
def k29c3 : Code := ⟨2, 1, jdk_49_method_6_code, #[], #[]⟩
def k29m3 : Method := { name := "checkForComodification", desc := "()V", sig := { parameters := [], returnType := none }, accessFlags := 16, code := some k29c3 }
def k29 : Class := { plain "java/util/ArrayList$Itr" (some 0) with
  accessFlags := 32
  interfaces := #[28]
  cf := some (fileOf pool29 2 #[.nestHost 18] #[⟨0, 11, 71, #[]⟩, ⟨1, 80, 81, #[]⟩, ⟨1, 83, 84, #[]⟩, ⟨16, 33, 12, #[]⟩] 32 8 #[69] #[⟨0, 27, 16, #[]⟩, ⟨0, 15, 16, #[]⟩, ⟨0, 24, 16, #[]⟩, ⟨4112, 5, 6, #[]⟩])
  fields := #[⟨"cursor", .int, 0, 0, 0⟩, ⟨"lastRet", .int, 0, 1, 0⟩, ⟨"expectedModCount", .int, 0, 2, 0⟩, ⟨"this$0", (.object "java/util/ArrayList"), 4112, 3, 0⟩]
  methods := #[k29m0, k29m1, k29m2, k29m3]
  instanceTypes := #[.int, .int, .int, (.object "java/util/ArrayList")]
  staticTypes := #[]
  resolved := Array.replicate 104 none
  statics := none }

def pool30 : Array CpInfo := pool [(2, .class_ 4), (1, u "java/lang/Object"), (0, u "<init>"), (0, u "()V"), (3, .class_ 11), (0, u "java/util/ImmutableCollections$List12"), (0, .class_ 13), (0, u "java/util/ImmutableCollections$ListN"), (3, u "Z"), (0, .class_ 19), (0, u "java/util/List"), (0, .interfaceMethodref 21 22), (0, .class_ 23), (0, .nameAndType 24 25), (0, u "java/util/Collection"), (0, u "isEmpty"), (0, u "()Z"), (0, .interfaceMethodref 18 27), (0, .nameAndType 28 29), (0, u "of"), (0, u "()Ljava/util/List;"), (0, .interfaceMethodref 21 31), (0, .nameAndType 32 33), (0, u "toArray"), (0, u "()[Ljava/lang/Object;"), (0, .interfaceMethodref 18 35), (0, .nameAndType 28 36), (0, u "([Ljava/lang/Object;)Ljava/util/List;"), (10, .class_ 49), (1, u "java/util/ImmutableCollections"), (0, u "$assertionsDisabled"), (5, u "[Ljava/lang/Object;"), (5, u "EMPTY_LIST"), (0, u "Ljava/util/ImmutableCollections$ListN;"), (8, u "EMPTY_LIST_NULLS"), (22, u "SALT32L"), (0, u "J"), (2, u "REVERSE"), (6, u "archivedObjects"), (2, u "EMPTY"), (0, u "Ljava/lang/Object;"), (0, .class_ 112), (0, u "java/util/ImmutableCollections$SetN"), (5, u "EMPTY_SET"), (0, u "Ljava/util/ImmutableCollections$SetN;"), (0, .class_ 121), (0, u "java/util/ImmutableCollections$MapN"), (3, u "EMPTY_MAP"), (0, u "Ljava/util/ImmutableCollections$MapN;"), (4, u "EXPAND_FACTOR"), (0, u "I"), (9, u "listCopy"), (0, u "(Ljava/util/Collection;)Ljava/util/List;"), (25, .class_ 170), (0, u "java/util/ImmutableCollections$MapN$MapNIterator"), (0, .class_ 172), (0, u "java/util/ImmutableCollections$MapN$1"), (0, .class_ 174), (0, u "java/util/ImmutableCollections$Map1"), (0, .class_ 176), (0, u "java/util/ImmutableCollections$AbstractImmutableMap"), (0, .class_ 178), (0, u "java/util/ImmutableCollections$SetN$SetNIterator"), (0, .class_ 180), (0, u "java/util/ImmutableCollections$Set12"), (0, .class_ 182), (0, u "java/util/ImmutableCollections$Set12$1"), (0, .class_ 184), (0, u "java/util/ImmutableCollections$AbstractImmutableSet"), (0, .class_ 186), (0, u "java/util/ImmutableCollections$SubList"), (0, .class_ 188), (0, u "java/util/ImmutableCollections$ListItr"), (0, .class_ 190), (0, u "java/util/ImmutableCollections$AbstractImmutableList"), (0, .class_ 192), (0, u "java/util/ImmutableCollections$AbstractImmutableCollection"), (0, .class_ 194), (0, u "java/util/ImmutableCollections$Access"), (0, .class_ 196), (0, u "java/util/ImmutableCollections$Access$1")] 16

def k30m0 : Method := { name := "<init>", desc := "()V", sig := { parameters := [], returnType := none }, accessFlags := 2, code := none }
def k30c1 : Code := ⟨1, 2, jdk_56_method_3_code, #[], #[]⟩
def k30m1 : Method := { name := "listCopy", desc := "(Ljava/util/Collection;)Ljava/util/List;", sig := { parameters := [(.object "java/util/Collection")], returnType := some (.object "java/util/List") }, accessFlags := 8, code := some k30c1 }
def k30 : Class := { plain "java/util/ImmutableCollections" (some 0) with
  accessFlags := 32
  interfaces := #[]
  cf := some (fileOf pool30 47 #[.nestMembers #[120, 169, 171, 173, 175, 111, 177, 179, 181, 183, 12, 10, 185, 187, 189, 191, 193, 195]] #[⟨2, 5, 6, #[]⟩, ⟨8, 142, 143, #[]⟩] 32 2 #[] #[⟨26, 95, 96, #[]⟩, ⟨26, 99, 17, #[]⟩, ⟨10, 106, 56, #[]⟩, ⟨26, 109, 110, #[]⟩, ⟨24, 62, 63, #[]⟩, ⟨24, 72, 63, #[]⟩, ⟨24, 118, 119, #[]⟩, ⟨24, 125, 126, #[]⟩, ⟨24, 131, 132, #[]⟩, ⟨4120, 50, 17, #[]⟩])
  fields := #[⟨"SALT32L", .long, 26, 0, 0⟩, ⟨"REVERSE", .boolean, 26, 1, 0⟩, ⟨"archivedObjects", (.array (.object "java/lang/Object")), 10, 2, 0⟩, ⟨"EMPTY", (.object "java/lang/Object"), 26, 3, 0⟩, ⟨"EMPTY_LIST", (.object "java/util/ImmutableCollections$ListN"), 24, 4, 0⟩, ⟨"EMPTY_LIST_NULLS", (.object "java/util/ImmutableCollections$ListN"), 24, 5, 0⟩, ⟨"EMPTY_SET", (.object "java/util/ImmutableCollections$SetN"), 24, 6, 0⟩, ⟨"EMPTY_MAP", (.object "java/util/ImmutableCollections$MapN"), 24, 7, 0⟩, ⟨"EXPAND_FACTOR", .int, 24, 8, 0⟩, ⟨"$assertionsDisabled", .boolean, 4120, 9, 0⟩]
  methods := #[k30m0, k30m1]
  instanceTypes := #[]
  staticTypes := #[.long, .boolean, (.array (.object "java/lang/Object")), (.object "java/lang/Object"), (.object "java/util/ImmutableCollections$ListN"), (.object "java/util/ImmutableCollections$ListN"), (.object "java/util/ImmutableCollections$SetN"), (.object "java/util/ImmutableCollections$MapN"), .int, .boolean]
  resolved := Array.replicate 213 none
  statics := some 3 }

def pool31 : Array CpInfo := pool [(1, .methodref 2 3), (0, .class_ 4), (0, .nameAndType 5 6), (0, u "java/util/AbstractCollection"), (0, u "<init>"), (0, u "()V"), (1, .class_ 10), (1, u "java/util/ImmutableCollections"), (2, .class_ 14), (0, u "java/util/ImmutableCollections$AbstractImmutableCollection")] 41

def k31c0 : Code := ⟨1, 1, jdk_47_method_1_code, #[], #[]⟩
def k31m0 : Method := { name := "<init>", desc := "()V", sig := { parameters := [], returnType := none }, accessFlags := 0, code := some k31c0 }
def k31 : Class := { plain "java/util/ImmutableCollections$AbstractImmutableCollection" (some 22) with
  accessFlags := 1056
  interfaces := #[]
  cf := some (fileOf pool31 13 #[.nestHost 8] #[⟨0, 5, 6, #[]⟩] 1056 2 #[] #[])
  fields := #[]
  methods := #[k31m0]
  instanceTypes := #[]
  staticTypes := #[]
  resolved := Array.replicate 56 none
  statics := none }

def pool32 : Array CpInfo := pool [(1, .methodref 2 3), (0, .class_ 4), (0, .nameAndType 5 6), (0, u "java/util/ImmutableCollections$AbstractImmutableCollection"), (0, u "<init>"), (0, u "()V"), (1, .class_ 10), (1, u "java/util/ImmutableCollections"), (2, .methodref 14 15), (0, .class_ 16), (0, .nameAndType 17 18), (0, u "java/util/ImmutableCollections$AbstractImmutableList"), (0, u "size"), (0, u "()I"), (42, .class_ 62), (0, u "java/util/ImmutableCollections$ListItr"), (0, .methodref 61 64), (0, .nameAndType 5 65), (0, u "(Ljava/util/List;I)V"), (11, .class_ 78), (0, u "java/util/List"), (2, u "iterator"), (0, u "()Ljava/util/Iterator;"), (41, .class_ 125), (0, u "java/util/RandomAccess")] 70

def k32c0 : Code := ⟨1, 1, jdk_46_method_1_code, #[], #[]⟩
def k32m0 : Method := { name := "<init>", desc := "()V", sig := { parameters := [], returnType := none }, accessFlags := 0, code := some k32c0 }
def k32c1 : Code := ⟨4, 1, jdk_46_method_10_code, #[], #[]⟩
def k32m1 : Method := { name := "iterator", desc := "()Ljava/util/Iterator;", sig := { parameters := [], returnType := some (.object "java/util/Iterator") }, accessFlags := 1, code := some k32c1 }
def k32 : Class := { plain "java/util/ImmutableCollections$AbstractImmutableList" (some 31) with
  accessFlags := 1056
  interfaces := #[24, 26]
  cf := some (fileOf pool32 14 #[.nestHost 8] #[⟨0, 5, 6, #[]⟩, ⟨1, 81, 82, #[]⟩] 1056 2 #[77, 124] #[])
  fields := #[]
  methods := #[k32m0, k32m1]
  instanceTypes := #[]
  staticTypes := #[]
  resolved := Array.replicate 196 none
  statics := none }

def pool33 : Array CpInfo := pool [(1, .methodref 2 3), (0, .class_ 4), (0, .nameAndType 5 6), (0, u "java/util/ImmutableCollections$AbstractImmutableList"), (0, u "<init>"), (0, u "()V"), (0, .methodref 8 9), (0, .class_ 10), (0, .nameAndType 11 12), (0, u "java/util/Objects"), (0, u "requireNonNull"), (0, u "(Ljava/lang/Object;)Ljava/lang/Object;"), (0, .fieldref 14 15), (0, .class_ 16), (0, .nameAndType 17 18), (0, u "java/util/ImmutableCollections$List12"), (0, u "e0"), (0, u "Ljava/lang/Object;"), (0, .fieldref 20 21), (0, .class_ 22), (0, .nameAndType 23 18), (0, u "java/util/ImmutableCollections"), (0, u "EMPTY"), (0, .fieldref 14 25), (0, .nameAndType 26 18), (0, u "e1"), (24, u "size"), (0, u "()I"), (17, .class_ 71), (0, u "java/io/Serializable"), (4, u "(Ljava/lang/Object;)V"), (8, u "(Ljava/lang/Object;Ljava/lang/Object;)V"), (4, u "get"), (0, u "(I)Ljava/lang/Object;")] 33

def k33c0 : Code := ⟨2, 2, jdk_44_method_1_code, #[], #[]⟩
def k33m0 : Method := { name := "<init>", desc := "(Ljava/lang/Object;)V", sig := { parameters := [(.object "java/lang/Object")], returnType := none }, accessFlags := 0, code := some k33c0 }
def k33c1 : Code := ⟨2, 3, jdk_44_method_2_code, #[], #[]⟩
def k33m1 : Method := { name := "<init>", desc := "(Ljava/lang/Object;Ljava/lang/Object;)V", sig := { parameters := [(.object "java/lang/Object"), (.object "java/lang/Object")], returnType := none }, accessFlags := 0, code := some k33c1 }
def k33c2 : Code := ⟨2, 1, jdk_44_method_3_code, #[], #[]⟩
def k33m2 : Method := { name := "size", desc := "()I", sig := { parameters := [], returnType := some .int }, accessFlags := 1, code := some k33c2 }
def k33c3 : Code := ⟨2, 2, jdk_44_method_5_code, #[], #[]⟩
def k33m3 : Method := { name := "get", desc := "(I)Ljava/lang/Object;", sig := { parameters := [.int], returnType := some (.object "java/lang/Object") }, accessFlags := 1, code := some k33c3 }
def k33 : Class := { plain "java/util/ImmutableCollections$List12" (some 32) with
  accessFlags := 48
  interfaces := #[4]
  cf := some (fileOf pool33 14 #[.nestHost 20] #[⟨0, 5, 76, #[]⟩, ⟨0, 5, 85, #[]⟩, ⟨1, 51, 52, #[]⟩, ⟨1, 90, 91, #[]⟩] 48 2 #[70] #[⟨18, 17, 18, #[]⟩, ⟨18, 26, 18, #[]⟩])
  fields := #[⟨"e0", (.object "java/lang/Object"), 18, 0, 0⟩, ⟨"e1", (.object "java/lang/Object"), 18, 1, 0⟩]
  methods := #[k33m0, k33m1, k33m2, k33m3]
  instanceTypes := #[(.object "java/lang/Object"), (.object "java/lang/Object")]
  staticTypes := #[]
  resolved := Array.replicate 125 none
  statics := none }

def pool34 : Array CpInfo := pool [(2, .class_ 4), (1, u "java/util/ImmutableCollections$AbstractImmutableList"), (2, .fieldref 8 9), (0, .class_ 10), (0, .nameAndType 11 12), (0, u "java/util/ImmutableCollections$ListN"), (0, u "elements"), (0, u "[Ljava/lang/Object;"), (2, u "allowNulls"), (0, u "Z"), (42, .class_ 60), (0, u "java/io/Serializable"), (16, u "size"), (0, u "()I"), (35, .class_ 115), (0, u "java/util/ImmutableCollections")] 3

def k34c0 : Code := ⟨1, 1, jdk_45_method_3_code, #[], #[]⟩
def k34m0 : Method := { name := "size", desc := "()I", sig := { parameters := [], returnType := some .int }, accessFlags := 1, code := some k34c0 }
def k34 : Class := { plain "java/util/ImmutableCollections$ListN" (some 32) with
  accessFlags := 48
  interfaces := #[4]
  cf := some (fileOf pool34 8 #[.nestHost 114] #[⟨1, 77, 78, #[]⟩] 48 2 #[59] #[⟨18, 11, 12, #[]⟩, ⟨18, 15, 16, #[]⟩])
  fields := #[⟨"elements", (.array (.object "java/lang/Object")), 18, 0, 0⟩, ⟨"allowNulls", .boolean, 18, 1, 0⟩]
  methods := #[k34m0]
  instanceTypes := #[(.array (.object "java/lang/Object")), .boolean]
  staticTypes := #[]
  resolved := Array.replicate 119 none
  statics := none }

def pool35 : Array CpInfo := pool [(2, .class_ 4), (1, u "java/lang/Object"), (0, u "<init>"), (0, u "()V"), (7, .class_ 16), (1, u "java/util/Arrays"), (57, .class_ 76), (1, u "java/util/Arrays$NaturalOrder"), (9, .methodref 2 87), (0, .nameAndType 88 89), (0, u "getClass"), (0, u "()Ljava/lang/Class;"), (20, .class_ 111), (0, u "[Ljava/lang/Object;"), (1, .class_ 115), (1, u "java/util/Arrays$LegacyMergeSort"), (1, u "Z"), (32, .methodref 151 152), (0, .class_ 153), (0, .nameAndType 154 155), (0, u "java/lang/System"), (0, u "arraycopy"), (0, u "(Ljava/lang/Object;ILjava/lang/Object;II)V"), (144, .methodref 14 301), (0, .nameAndType 302 303), (0, u "copyOf"), (0, u "([Ljava/lang/Object;ILjava/lang/Class;)[Ljava/lang/Object;"), (0, .methodref 305 306), (0, .class_ 307), (0, .nameAndType 308 309), (0, u "java/lang/Math"), (0, u "min"), (0, u "(II)I"), (65, .class_ 376), (0, u "java/util/Arrays$ArrayList"), (68, u "$assertionsDisabled"), (269, u "MIN_ARRAY_SORT_GRAN"), (0, u "I"), (2, u "INSERTIONSORT_THRESHOLD"), (140, u "([Ljava/lang/Object;I)[Ljava/lang/Object;"), (114, .class_ 976), (0, u "java/util/Arrays$ArrayItr")] 52

def k35m0 : Method := { name := "<init>", desc := "()V", sig := { parameters := [], returnType := none }, accessFlags := 2, code := none }
def k35c1 : Code := ⟨3, 2, jdk_65_method_119_code, #[], #[]⟩
def k35m1 : Method := { name := "copyOf", desc := "([Ljava/lang/Object;I)[Ljava/lang/Object;", sig := { parameters := [(.array (.object "java/lang/Object")), .int], returnType := some (.array (.object "java/lang/Object")) }, accessFlags := 9, code := some k35c1 }
def k35c2 : Code := ⟨6, 4, jdk_65_method_120_code, #[], #[]⟩
def k35m2 : Method := { name := "copyOf", desc := "([Ljava/lang/Object;ILjava/lang/Class;)[Ljava/lang/Object;", sig := { parameters := [(.array (.object "java/lang/Object")), .int, (.object "java/lang/Class")], returnType := some (.array (.object "java/lang/Object")) }, accessFlags := 9, code := some k35c2 }
def k35 : Class := { plain "java/util/Arrays" (some 0) with
  accessFlags := 49
  interfaces := #[]
  cf := some (fileOf pool35 14 #[.nestMembers #[975, 375, 113, 74]] #[⟨2, 5, 6, #[]⟩, ⟨9, 302, 860, #[]⟩, ⟨9, 302, 303, #[]⟩] 49 2 #[] #[⟨26, 715, 716, #[]⟩, ⟨26, 719, 716, #[]⟩, ⟨4120, 445, 117, #[]⟩])
  fields := #[⟨"MIN_ARRAY_SORT_GRAN", .int, 26, 0, 0⟩, ⟨"INSERTIONSORT_THRESHOLD", .int, 26, 1, 0⟩, ⟨"$assertionsDisabled", .boolean, 4120, 2, 0⟩]
  methods := #[k35m0, k35m1, k35m2]
  instanceTypes := #[]
  staticTypes := #[.int, .int, .boolean]
  resolved := Array.replicate 1029 none
  statics := none }

def pool36 : Array CpInfo := pool [(1, .class_ 2), (0, u "java/lang/Math"), (1, .class_ 6), (1, u "java/lang/Object"), (0, u "<init>"), (0, u "()V"), (89, .class_ 100), (1, u "java/lang/Math$RandomNumberGeneratorHolder"), (71, u "negativeZeroFloatBits"), (0, u "J"), (2, u "negativeZeroDoubleBits"), (21, u "max"), (2, u "min"), (43, u "$assertionsDisabled"), (0, u "Z"), (88, u "(II)I"), (2, u "twoToTheDoubleScaleDown"), (0, u "D"), (4, u "twoToTheDoubleScaleUp"), (9, u "E"), (3, u "PI"), (2, u "TAU"), (2, u "DEGREES_TO_RADIANS"), (0, u "RADIANS_TO_DEGREES")] 94

def k36m0 : Method := { name := "<init>", desc := "()V", sig := { parameters := [], returnType := none }, accessFlags := 2, code := none }
def k36c1 : Code := ⟨2, 2, jdk_29_method_65_code, #[], #[]⟩
def k36m1 : Method := { name := "max", desc := "(II)I", sig := { parameters := [.int, .int], returnType := some .int }, accessFlags := 9, code := some k36c1 }
def k36c2 : Code := ⟨2, 2, jdk_29_method_69_code, #[], #[]⟩
def k36m2 : Method := { name := "min", desc := "(II)I", sig := { parameters := [.int, .int], returnType := some .int }, accessFlags := 9, code := some k36c2 }
def k36 : Class := { plain "java/lang/Math" (some 0) with
  accessFlags := 49
  interfaces := #[]
  cf := some (fileOf pool36 1 #[.nestMembers #[98]] #[⟨2, 7, 8, #[]⟩, ⟨9, 198, 335, #[]⟩, ⟨9, 201, 335, #[]⟩] 49 4 #[] #[⟨25, 354, 339, #[]⟩, ⟨25, 358, 339, #[]⟩, ⟨25, 361, 339, #[]⟩, ⟨26, 364, 339, #[]⟩, ⟨26, 365, 339, #[]⟩, ⟨26, 172, 173, #[]⟩, ⟨26, 176, 173, #[]⟩, ⟨8, 344, 339, #[]⟩, ⟨8, 338, 339, #[]⟩, ⟨4120, 245, 246, #[]⟩])
  fields := #[⟨"E", .double, 25, 0, 0⟩, ⟨"PI", .double, 25, 1, 0⟩, ⟨"TAU", .double, 25, 2, 0⟩, ⟨"DEGREES_TO_RADIANS", .double, 26, 3, 0⟩, ⟨"RADIANS_TO_DEGREES", .double, 26, 4, 0⟩, ⟨"negativeZeroFloatBits", .long, 26, 5, 0⟩, ⟨"negativeZeroDoubleBits", .long, 26, 6, 0⟩, ⟨"twoToTheDoubleScaleUp", .double, 8, 7, 0⟩, ⟨"twoToTheDoubleScaleDown", .double, 8, 8, 0⟩, ⟨"$assertionsDisabled", .boolean, 4120, 9, 0⟩]
  methods := #[k36m0, k36m1, k36m2]
  instanceTypes := #[]
  staticTypes := #[.double, .double, .double, .double, .double, .long, .long, .double, .double, .boolean]
  resolved := Array.replicate 460 none
  statics := none }

def pool37 : Array CpInfo := pool [(2, .class_ 4), (1, u "java/lang/Object"), (0, u "<init>"), (0, u "()V"), (1, .class_ 10), (1, u "java/lang/System"), (0, u "allowSecurityManager"), (0, u "I"), (16, u "cons"), (0, u "Ljava/io/Console;"), (77, .class_ 110), (1, u "java/lang/System$CallersHolder"), (43, u "initialErrStream"), (0, u "Ljava/io/PrintStream;"), (19, u "security"), (0, u "Ljava/lang/SecurityManager;"), (31, .class_ 209), (0, u "java/lang/System$1"), (7, u "props"), (0, u "Ljava/util/Properties;"), (2, u "lineSeparator"), (0, u "Ljava/lang/String;"), (96, .class_ 321), (1, u "java/lang/System$LoggerFinder"), (5, .class_ 328), (0, u "java/lang/System$Logger"), (67, u "err"), (2, u "out"), (91, u "notSupportedJnuEncoding"), (15, u "in"), (17, u "initialIn"), (0, u "Ljava/io/InputStream;"), (35, u "bootLayer"), (0, u "Ljava/lang/ModuleLayer;"), (99, .class_ 664), (0, u "java/lang/System$2"), (9, u "NEVER"), (2, u "MAYBE"), (49, u "arraycopy"), (0, u "(Ljava/lang/Object;ILjava/lang/Object;II)V"), (72, .class_ 802), (0, u "java/lang/System$Logger$Level")] 31

def k37m0 : Method := { name := "<init>", desc := "()V", sig := { parameters := [], returnType := none }, accessFlags := 2, code := none }
def k37m1 : Method := { name := "arraycopy", desc := "(Ljava/lang/Object;ILjava/lang/Object;II)V", sig := { parameters := [(.object "java/lang/Object"), .int, (.object "java/lang/Object"), .int, .int], returnType := none }, accessFlags := 265, code := none }
def k37 : Class := { plain "java/lang/System" (some 0) with
  accessFlags := 49
  interfaces := #[]
  cf := some (fileOf pool37 8 #[.nestMembers #[319, 327, 801, 108, 663, 208]] #[⟨2, 5, 6, #[]⟩, ⟨265, 727, 728, #[]⟩] 49 2 #[] #[⟨25, 507, 526, #[]⟩, ⟨25, 399, 155, #[]⟩, ⟨25, 396, 155, #[]⟩, ⟨10, 525, 526, #[]⟩, ⟨26, 674, 12, #[]⟩, ⟨26, 677, 12, #[]⟩, ⟨10, 11, 12, #[]⟩, ⟨74, 175, 176, #[]⟩, ⟨10, 491, 222, #[]⟩, ⟨74, 29, 30, #[]⟩, ⟨74, 154, 155, #[]⟩, ⟨10, 217, 218, #[]⟩, ⟨10, 221, 222, #[]⟩, ⟨8, 562, 563, #[]⟩])
  fields := #[⟨"in", (.object "java/io/InputStream"), 25, 0, 0⟩, ⟨"out", (.object "java/io/PrintStream"), 25, 1, 0⟩, ⟨"err", (.object "java/io/PrintStream"), 25, 2, 0⟩, ⟨"initialIn", (.object "java/io/InputStream"), 10, 3, 0⟩, ⟨"NEVER", .int, 26, 4, 0⟩, ⟨"MAYBE", .int, 26, 5, 0⟩, ⟨"allowSecurityManager", .int, 10, 6, 0⟩, ⟨"security", (.object "java/lang/SecurityManager"), 74, 7, 0⟩, ⟨"notSupportedJnuEncoding", (.object "java/lang/String"), 10, 8, 0⟩, ⟨"cons", (.object "java/io/Console"), 74, 9, 0⟩, ⟨"initialErrStream", (.object "java/io/PrintStream"), 74, 10, 0⟩, ⟨"props", (.object "java/util/Properties"), 10, 11, 0⟩, ⟨"lineSeparator", (.object "java/lang/String"), 10, 12, 0⟩, ⟨"bootLayer", (.object "java/lang/ModuleLayer"), 8, 13, 0⟩]
  methods := #[k37m0, k37m1]
  instanceTypes := #[]
  staticTypes := #[(.object "java/io/InputStream"), (.object "java/io/PrintStream"), (.object "java/io/PrintStream"), (.object "java/io/InputStream"), .int, .int, .int, (.object "java/lang/SecurityManager"), (.object "java/lang/String"), (.object "java/io/Console"), (.object "java/io/PrintStream"), (.object "java/util/Properties"), (.object "java/lang/String"), (.object "java/lang/ModuleLayer")]
  resolved := Array.replicate 834 none
  statics := none }

def pool38 : Array CpInfo := pool [(2, .class_ 4), (1, u "java/lang/Object"), (0, u "<init>"), (0, u "()V"), (35, .class_ 44), (1, u "java/util/Objects"), (0, u "requireNonNull"), (0, u "(Ljava/lang/Object;)Ljava/lang/Object;"), (58, .methodref 106 107), (0, .class_ 108), (0, .nameAndType 109 110), (0, u "jdk/internal/util/Preconditions"), (0, u "checkIndex"), (0, u "(IILjava/util/function/BiFunction;)I"), (60, u "(II)I")] 12

def k38m0 : Method := { name := "<init>", desc := "()V", sig := { parameters := [], returnType := none }, accessFlags := 2, code := none }
def k38c1 : Code := ⟨2, 1, jdk_31_method_10_code, #[], #[]⟩
def k38m1 : Method := { name := "requireNonNull", desc := "(Ljava/lang/Object;)Ljava/lang/Object;", sig := { parameters := [(.object "java/lang/Object")], returnType := some (.object "java/lang/Object") }, accessFlags := 9, code := some k38c1 }
def k38c2 : Code := ⟨3, 2, jdk_31_method_17_code, #[], #[]⟩
def k38m2 : Method := { name := "checkIndex", desc := "(II)I", sig := { parameters := [.int, .int], returnType := some .int }, accessFlags := 9, code := some k38c2 }
def k38 : Class := { plain "java/util/Objects" (some 0) with
  accessFlags := 49
  interfaces := #[]
  cf := some (fileOf pool38 42 #[] #[⟨2, 5, 6, #[]⟩, ⟨9, 45, 46, #[]⟩, ⟨9, 109, 171, #[]⟩] 49 2 #[] #[])
  fields := #[]
  methods := #[k38m0, k38m1, k38m2]
  instanceTypes := #[]
  staticTypes := #[]
  resolved := Array.replicate 184 none
  statics := none }

def pool39 : Array CpInfo := pool [(1, .class_ 2), (0, u "java/util/ListIterator"), (0, .class_ 4), (0, u "java/lang/Object"), (0, .class_ 6), (0, u "java/util/Iterator")] 20

def k39 : Class := { plain "java/util/ListIterator" (some 0) with
  accessFlags := 1537
  interfaces := #[28]
  cf := some (fileOf pool39 1 #[] #[] 1537 3 #[5] #[])
  fields := #[]
  methods := #[]
  instanceTypes := #[]
  staticTypes := #[]
  resolved := Array.replicate 27 none
  statics := none }

def pool40 : Array CpInfo := pool [(1, .methodref 2 3), (0, .class_ 4), (0, .nameAndType 5 6), (0, u "java/lang/Object"), (0, u "<init>"), (0, u "()V"), (0, .fieldref 8 9), (0, .class_ 10), (0, .nameAndType 11 12), (0, u "java/util/ImmutableCollections$ListItr"), (0, u "list"), (0, u "Ljava/util/List;"), (0, .fieldref 8 14), (0, .nameAndType 15 16), (0, u "size"), (0, u "I"), (0, .fieldref 8 18), (0, .nameAndType 19 16), (0, u "cursor"), (0, .fieldref 8 21), (0, .nameAndType 22 23), (0, u "isListIterator"), (0, u "Z"), (0, .interfaceMethodref 25 26), (0, .class_ 27), (0, .nameAndType 28 29), (0, u "java/util/List"), (0, u "get"), (0, u "(I)Ljava/lang/Object;"), (6, .class_ 38), (1, u "java/util/ImmutableCollections"), (2, .class_ 42), (0, u "java/util/ListIterator"), (4, u "(Ljava/util/List;I)V"), (11, u "hasNext"), (0, u "()Z"), (1, u "next"), (0, u "()Ljava/lang/Object;")] 22

def k40c0 : Code := ⟨2, 3, jdk_53_method_1_code, #[], #[]⟩
def k40m0 : Method := { name := "<init>", desc := "(Ljava/util/List;I)V", sig := { parameters := [(.object "java/util/List"), .int], returnType := none }, accessFlags := 0, code := some k40c0 }
def k40c1 : Code := ⟨2, 1, jdk_53_method_3_code, #[], #[]⟩
def k40m1 : Method := { name := "hasNext", desc := "()Z", sig := { parameters := [], returnType := some .boolean }, accessFlags := 1, code := some k40c1 }
def k40c2 : Code := { maxStack := 3, maxLocals := 3, code := jdk_53_method_4_code, exceptionTable := #[{ startPc := 0, endPc := 24, handlerPc := 25, catchType := 30 }], attributes := #[] }
def k40m2 : Method := { name := "next", desc := "()Ljava/lang/Object;", sig := { parameters := [], returnType := some (.object "java/lang/Object") }, accessFlags := 1, code := some k40c2 }
def k40 : Class := { plain "java/util/ImmutableCollections$ListItr" (some 0) with
  accessFlags := 48
  interfaces := #[39]
  cf := some (fileOf pool40 8 #[.nestHost 36] #[⟨0, 5, 47, #[]⟩, ⟨1, 59, 60, #[]⟩, ⟨1, 62, 63, #[]⟩] 48 2 #[41] #[⟨18, 11, 12, #[]⟩, ⟨18, 15, 16, #[]⟩, ⟨18, 22, 23, #[]⟩, ⟨2, 19, 16, #[]⟩])
  fields := #[⟨"list", (.object "java/util/List"), 18, 0, 0⟩, ⟨"size", .int, 18, 1, 0⟩, ⟨"isListIterator", .boolean, 18, 2, 0⟩, ⟨"cursor", .int, 2, 3, 0⟩]
  methods := #[k40m0, k40m1, k40m2]
  instanceTypes := #[(.object "java/util/List"), .int, .boolean, .int]
  staticTypes := #[]
  resolved := Array.replicate 86 none
  statics := none }

def pool41 : Array CpInfo := pool [(2, .class_ 4), (1, u "java/lang/Object"), (0, u "<init>"), (0, u "()V"), (17, .class_ 26), (1, u "jdk/internal/util/Preconditions"), (6, u "checkIndex"), (21, .class_ 56), (0, u "jdk/internal/util/Preconditions$4"), (57, .class_ 115), (0, u "jdk/internal/util/Preconditions$1"), (7, u "SIOOBE_FORMATTER"), (0, u "Ljava/util/function/BiFunction;"), (0, .class_ 126), (0, u "jdk/internal/util/Preconditions$2"), (3, u "AIOOBE_FORMATTER"), (0, .class_ 132), (0, u "jdk/internal/util/Preconditions$3"), (3, u "IOOBE_FORMATTER"), (41, u "(IILjava/util/function/BiFunction;)I")] 15

def k41m0 : Method := { name := "<init>", desc := "()V", sig := { parameters := [], returnType := none }, accessFlags := 1, code := none }
def k41c1 : Code := ⟨3, 3, jdk_41_method_11_code, #[], #[]⟩
def k41m1 : Method := { name := "checkIndex", desc := "(IILjava/util/function/BiFunction;)I", sig := { parameters := [.int, .int, (.object "java/util/function/BiFunction")], returnType := some .int }, accessFlags := 9, code := some k41c1 }
def k41 : Class := { plain "jdk/internal/util/Preconditions" (some 0) with
  accessFlags := 33
  interfaces := #[]
  cf := some (fileOf pool41 24 #[.nestMembers #[55, 131, 125, 114]] #[⟨1, 5, 6, #[]⟩, ⟨9, 33, 178, #[]⟩] 33 2 #[] #[⟨25, 123, 124, #[]⟩, ⟨25, 130, 124, #[]⟩, ⟨25, 136, 124, #[]⟩])
  fields := #[⟨"SIOOBE_FORMATTER", (.object "java/util/function/BiFunction"), 25, 0, 0⟩, ⟨"AIOOBE_FORMATTER", (.object "java/util/function/BiFunction"), 25, 1, 0⟩, ⟨"IOOBE_FORMATTER", (.object "java/util/function/BiFunction"), 25, 2, 0⟩]
  methods := #[k41m0, k41m1]
  instanceTypes := #[]
  staticTypes := #[(.object "java/util/function/BiFunction"), (.object "java/util/function/BiFunction"), (.object "java/util/function/BiFunction")]
  resolved := Array.replicate 194 none
  statics := none }

def pool42 : Array CpInfo := pool [(1, .class_ 2), (0, u "java/lang/Class"), (0, .class_ 4), (0, u "java/lang/Object")] 0

def k42 : Class := { plain "java/lang/Class" (some 0) with
  accessFlags := 49
  interfaces := #[]
  cf := some (fileOf pool42 1 #[] #[] 49 3 #[] #[])
  fields := #[]
  methods := #[]
  instanceTypes := #[]
  staticTypes := #[]
  resolved := Array.replicate 5 none
  statics := none }

def k43 : Class := { plain "byte" none with kind := .primitive 'B', accessFlags := 0x411 }
def k44 : Class := { plain "[B" (some 0) with kind := .array 43 .byte, interfaces := #[15, 4], accessFlags := 1041 }

def k45 : Class := { plain "[Ljava/lang/Long;" (some 0) with kind := .array 10 (.object "java/lang/Long"), interfaces := #[15, 4], accessFlags := 1041 }

def k46 : Class := { plain "[Ljava/lang/Object;" (some 0) with kind := .array 0 (.object "java/lang/Object"), interfaces := #[15, 4], accessFlags := 1041, mirror := some 4 }

abbrev B (c : ClassId) (s : Array Value) : Cell := { cls := c, slots := s, vm := .none }
def heap : Heap := #[{ cls := 6, slots := #[.ref 263, .ref 264, .null], vm := .statics 6 },
  { cls := 11, slots := #[.ref 5, .null, .int 0], vm := .statics 11 },
  { cls := 27, slots := #[.long 0, .int 0, .ref 266, .ref 267], vm := .statics 27 },
  { cls := 30, slots := #[.long 0, .int 0, .null, .ref 268, .ref 265, .null, .null, .null, .int 0, .int 1], vm := .statics 30 },
  { cls := 42, slots := #[], vm := .mirror 46 },
  B 45 #[.ref 7, .ref 8, .ref 9, .ref 10, .ref 11, .ref 12, .ref 13, .ref 14, .ref 15, .ref 16, .ref 17, .ref 18, .ref 19, .ref 20, .ref 21, .ref 22, .ref 23, .ref 24, .ref 25, .ref 26, .ref 27, .ref 28, .ref 29, .ref 30, .ref 31, .ref 32, .ref 33, .ref 34, .ref 35, .ref 36, .ref 37, .ref 38, .ref 39, .ref 40, .ref 41, .ref 42, .ref 43, .ref 44, .ref 45, .ref 46, .ref 47, .ref 48, .ref 49, .ref 50, .ref 51, .ref 52, .ref 53, .ref 54, .ref 55, .ref 56, .ref 57, .ref 58, .ref 59, .ref 60, .ref 61, .ref 62, .ref 63, .ref 64, .ref 65, .ref 66, .ref 67, .ref 68, .ref 69, .ref 70, .ref 71, .ref 72, .ref 73, .ref 74, .ref 75, .ref 76, .ref 77, .ref 78, .ref 79, .ref 80, .ref 81, .ref 82, .ref 83, .ref 84, .ref 85, .ref 86, .ref 87, .ref 88, .ref 89, .ref 90, .ref 91, .ref 92, .ref 93, .ref 94, .ref 95, .ref 96, .ref 97, .ref 98, .ref 99, .ref 100, .ref 101, .ref 102, .ref 103, .ref 104, .ref 105, .ref 106, .ref 107, .ref 108, .ref 109, .ref 110, .ref 111, .ref 112, .ref 113, .ref 114, .ref 115, .ref 116, .ref 117, .ref 118, .ref 119, .ref 120, .ref 121, .ref 122, .ref 123, .ref 124, .ref 125, .ref 126, .ref 127, .ref 128, .ref 129, .ref 130, .ref 131, .ref 132, .ref 133, .ref 134, .ref 135, .ref 136, .ref 137, .ref 138, .ref 139, .ref 140, .ref 141, .ref 142, .ref 143, .ref 144, .ref 145, .ref 146, .ref 147, .ref 148, .ref 149, .ref 150, .ref 151, .ref 152, .ref 153, .ref 154, .ref 155, .ref 156, .ref 157, .ref 158, .ref 159, .ref 160, .ref 161, .ref 162, .ref 163, .ref 164, .ref 165, .ref 166, .ref 167, .ref 168, .ref 169, .ref 170, .ref 171, .ref 172, .ref 173, .ref 174, .ref 175, .ref 176, .ref 177, .ref 178, .ref 179, .ref 180, .ref 181, .ref 182, .ref 183, .ref 184, .ref 185, .ref 186, .ref 187, .ref 188, .ref 189, .ref 190, .ref 191, .ref 192, .ref 193, .ref 194, .ref 195, .ref 196, .ref 197, .ref 198, .ref 199, .ref 200, .ref 201, .ref 202, .ref 203, .ref 204, .ref 205, .ref 206, .ref 207, .ref 208, .ref 209, .ref 210, .ref 211, .ref 212, .ref 213, .ref 214, .ref 215, .ref 216, .ref 217, .ref 218, .ref 219, .ref 220, .ref 221, .ref 222, .ref 223, .ref 224, .ref 225, .ref 226, .ref 227, .ref 228, .ref 229, .ref 230, .ref 231, .ref 232, .ref 233, .ref 234, .ref 235, .ref 236, .ref 237, .ref 238, .ref 239, .ref 240, .ref 241, .ref 242, .ref 243, .ref 244, .ref 245, .ref 246, .ref 247, .ref 248, .ref 249, .ref 250, .ref 251, .ref 252, .ref 253, .ref 254, .ref 255, .ref 256, .ref 257, .ref 258, .ref 259, .ref 260, .ref 261, .ref 262],
  B 46 #[],
  B 10 #[.long (-128)],
  B 10 #[.long (-127)],
  B 10 #[.long (-126)],
  B 10 #[.long (-125)],
  B 10 #[.long (-124)],
  B 10 #[.long (-123)],
  B 10 #[.long (-122)],
  B 10 #[.long (-121)],
  B 10 #[.long (-120)],
  B 10 #[.long (-119)],
  B 10 #[.long (-118)],
  B 10 #[.long (-117)],
  B 10 #[.long (-116)],
  B 10 #[.long (-115)],
  B 10 #[.long (-114)],
  B 10 #[.long (-113)],
  B 10 #[.long (-112)],
  B 10 #[.long (-111)],
  B 10 #[.long (-110)],
  B 10 #[.long (-109)],
  B 10 #[.long (-108)],
  B 10 #[.long (-107)],
  B 10 #[.long (-106)],
  B 10 #[.long (-105)],
  B 10 #[.long (-104)],
  B 10 #[.long (-103)],
  B 10 #[.long (-102)],
  B 10 #[.long (-101)],
  B 10 #[.long (-100)],
  B 10 #[.long (-99)],
  B 10 #[.long (-98)],
  B 10 #[.long (-97)],
  B 10 #[.long (-96)],
  B 10 #[.long (-95)],
  B 10 #[.long (-94)],
  B 10 #[.long (-93)],
  B 10 #[.long (-92)],
  B 10 #[.long (-91)],
  B 10 #[.long (-90)],
  B 10 #[.long (-89)],
  B 10 #[.long (-88)],
  B 10 #[.long (-87)],
  B 10 #[.long (-86)],
  B 10 #[.long (-85)],
  B 10 #[.long (-84)],
  B 10 #[.long (-83)],
  B 10 #[.long (-82)],
  B 10 #[.long (-81)],
  B 10 #[.long (-80)],
  B 10 #[.long (-79)],
  B 10 #[.long (-78)],
  B 10 #[.long (-77)],
  B 10 #[.long (-76)],
  B 10 #[.long (-75)],
  B 10 #[.long (-74)],
  B 10 #[.long (-73)],
  B 10 #[.long (-72)],
  B 10 #[.long (-71)],
  B 10 #[.long (-70)],
  B 10 #[.long (-69)],
  B 10 #[.long (-68)],
  B 10 #[.long (-67)],
  B 10 #[.long (-66)],
  B 10 #[.long (-65)],
  B 10 #[.long (-64)],
  B 10 #[.long (-63)],
  B 10 #[.long (-62)],
  B 10 #[.long (-61)],
  B 10 #[.long (-60)],
  B 10 #[.long (-59)],
  B 10 #[.long (-58)],
  B 10 #[.long (-57)],
  B 10 #[.long (-56)],
  B 10 #[.long (-55)],
  B 10 #[.long (-54)],
  B 10 #[.long (-53)],
  B 10 #[.long (-52)],
  B 10 #[.long (-51)],
  B 10 #[.long (-50)],
  B 10 #[.long (-49)],
  B 10 #[.long (-48)],
  B 10 #[.long (-47)],
  B 10 #[.long (-46)],
  B 10 #[.long (-45)],
  B 10 #[.long (-44)],
  B 10 #[.long (-43)],
  B 10 #[.long (-42)],
  B 10 #[.long (-41)],
  B 10 #[.long (-40)],
  B 10 #[.long (-39)],
  B 10 #[.long (-38)],
  B 10 #[.long (-37)],
  B 10 #[.long (-36)],
  B 10 #[.long (-35)],
  B 10 #[.long (-34)],
  B 10 #[.long (-33)],
  B 10 #[.long (-32)],
  B 10 #[.long (-31)],
  B 10 #[.long (-30)],
  B 10 #[.long (-29)],
  B 10 #[.long (-28)],
  B 10 #[.long (-27)],
  B 10 #[.long (-26)],
  B 10 #[.long (-25)],
  B 10 #[.long (-24)],
  B 10 #[.long (-23)],
  B 10 #[.long (-22)],
  B 10 #[.long (-21)],
  B 10 #[.long (-20)],
  B 10 #[.long (-19)],
  B 10 #[.long (-18)],
  B 10 #[.long (-17)],
  B 10 #[.long (-16)],
  B 10 #[.long (-15)],
  B 10 #[.long (-14)],
  B 10 #[.long (-13)],
  B 10 #[.long (-12)],
  B 10 #[.long (-11)],
  B 10 #[.long (-10)],
  B 10 #[.long (-9)],
  B 10 #[.long (-8)],
  B 10 #[.long (-7)],
  B 10 #[.long (-6)],
  B 10 #[.long (-5)],
  B 10 #[.long (-4)],
  B 10 #[.long (-3)],
  B 10 #[.long (-2)],
  B 10 #[.long (-1)],
  B 10 #[.long 0],
  B 10 #[.long 1],
  B 10 #[.long 2],
  B 10 #[.long 3],
  B 10 #[.long 4],
  B 10 #[.long 5],
  B 10 #[.long 6],
  B 10 #[.long 7],
  B 10 #[.long 8],
  B 10 #[.long 9],
  B 10 #[.long 10],
  B 10 #[.long 11],
  B 10 #[.long 12],
  B 10 #[.long 13],
  B 10 #[.long 14],
  B 10 #[.long 15],
  B 10 #[.long 16],
  B 10 #[.long 17],
  B 10 #[.long 18],
  B 10 #[.long 19],
  B 10 #[.long 20],
  B 10 #[.long 21],
  B 10 #[.long 22],
  B 10 #[.long 23],
  B 10 #[.long 24],
  B 10 #[.long 25],
  B 10 #[.long 26],
  B 10 #[.long 27],
  B 10 #[.long 28],
  B 10 #[.long 29],
  B 10 #[.long 30],
  B 10 #[.long 31],
  B 10 #[.long 32],
  B 10 #[.long 33],
  B 10 #[.long 34],
  B 10 #[.long 35],
  B 10 #[.long 36],
  B 10 #[.long 37],
  B 10 #[.long 38],
  B 10 #[.long 39],
  B 10 #[.long 40],
  B 10 #[.long 41],
  B 10 #[.long 42],
  B 10 #[.long 43],
  B 10 #[.long 44],
  B 10 #[.long 45],
  B 10 #[.long 46],
  B 10 #[.long 47],
  B 10 #[.long 48],
  B 10 #[.long 49],
  B 10 #[.long 50],
  B 10 #[.long 51],
  B 10 #[.long 52],
  B 10 #[.long 53],
  B 10 #[.long 54],
  B 10 #[.long 55],
  B 10 #[.long 56],
  B 10 #[.long 57],
  B 10 #[.long 58],
  B 10 #[.long 59],
  B 10 #[.long 60],
  B 10 #[.long 61],
  B 10 #[.long 62],
  B 10 #[.long 63],
  B 10 #[.long 64],
  B 10 #[.long 65],
  B 10 #[.long 66],
  B 10 #[.long 67],
  B 10 #[.long 68],
  B 10 #[.long 69],
  B 10 #[.long 70],
  B 10 #[.long 71],
  B 10 #[.long 72],
  B 10 #[.long 73],
  B 10 #[.long 74],
  B 10 #[.long 75],
  B 10 #[.long 76],
  B 10 #[.long 77],
  B 10 #[.long 78],
  B 10 #[.long 79],
  B 10 #[.long 80],
  B 10 #[.long 81],
  B 10 #[.long 82],
  B 10 #[.long 83],
  B 10 #[.long 84],
  B 10 #[.long 85],
  B 10 #[.long 86],
  B 10 #[.long 87],
  B 10 #[.long 88],
  B 10 #[.long 89],
  B 10 #[.long 90],
  B 10 #[.long 91],
  B 10 #[.long 92],
  B 10 #[.long 93],
  B 10 #[.long 94],
  B 10 #[.long 95],
  B 10 #[.long 96],
  B 10 #[.long 97],
  B 10 #[.long 98],
  B 10 #[.long 99],
  B 10 #[.long 100],
  B 10 #[.long 101],
  B 10 #[.long 102],
  B 10 #[.long 103],
  B 10 #[.long 104],
  B 10 #[.long 105],
  B 10 #[.long 106],
  B 10 #[.long 107],
  B 10 #[.long 108],
  B 10 #[.long 109],
  B 10 #[.long 110],
  B 10 #[.long 111],
  B 10 #[.long 112],
  B 10 #[.long 113],
  B 10 #[.long 114],
  B 10 #[.long 115],
  B 10 #[.long 116],
  B 10 #[.long 117],
  B 10 #[.long 118],
  B 10 #[.long 119],
  B 10 #[.long 120],
  B 10 #[.long 121],
  B 10 #[.long 122],
  B 10 #[.long 123],
  B 10 #[.long 124],
  B 10 #[.long 125],
  B 10 #[.long 126],
  B 10 #[.long 127],
  B 6 #[.null, .int 0, .int 0],
  B 6 #[.null, .int 1, .int 0],
  B 34 #[.ref 6, .int 0],
  B 46 #[],
  B 46 #[],
  B 0 #[]]
def classes : Array Class := #[k0, k1, k2, k3, k4, k5, k6, k7, k8, k9, k10, k11, k12, k13, k14, k15, k16, k17, k18, k19, k20, k21, k22, k23, k24, k25, k26, k27, k28, k29, k30, k31, k32, k33, k34, k35, k36, k37, k38, k39, k40, k41, k42, k43, k44, k45, k46]
def interned : List (Array UInt16 × Addr) := []
def slotsUsed : Nat := 540
def theMethod : MethodId := ⟨1, 1⟩
def args0 : Array Value := #[.int 0, .long 0]
def aboutOver (below : List Frame) : State where
  vm := { classes := classes, interned := interned.toArray }
  heap := heap
  slotsUsed := slotsUsed
  threads := #[{ frames := .invoking theMethod args0 :: below }]
def below0 : List Frame := [.native { method := ⟨0, 0⟩, args := #[] }]
def about1 : State := aboutOver below0
def p0 : Program := .bare "" "" ""
def e0 : Env := launch0.env 0 0 0
theorem w_frames : about1.frames = Frame.invoking theMethod args0 :: below0 := rfl
set_option maxRecDepth 65536 in
theorem w_args : argsFit about1.vm theMethod args0 = true := by decide +kernel
set_option maxRecDepth 65536 in
theorem w_heap : heapFits about1 = true := by decide +kernel
set_option maxRecDepth 65536 in
theorem w_runnable : about1.curStatus? = some .runnable := by decide +kernel
set_option maxRecDepth 65536 in
theorem w_alone : about1.alone = true := by decide +kernel
set_option maxRecDepth 65536 in
theorem w_named : about1.methodNamed? x = some theMethod := by decide +kernel
set_option maxRecDepth 65536 in
theorem w_hears : about1.hears theMethod below0 = true := by decide +kernel
set_option maxRecDepth 65536 in
theorem w_ripe : about1.ripe theMethod args0 below0 = true := by decide +kernel
theorem w_running : about1.status = .running := rfl
set_option maxRecDepth 65536 in
theorem w_room : about1.hasRoom e0.platform room_1 = true :=
  launch0.hasRoom_least _ room_1 (by decide +kernel) (by decide +kernel) (by decide +kernel) (by decide +kernel) (by decide +kernel) (by decide +kernel)
theorem allAtoms_all (ts : List Jvm.Cond) (a : Array Jvm.Value) (st : Jvm.State) : (allAtoms ts).before a st = ts.all (fun c => c.before a st) := by
  induction ts with
  | nil => rfl
  | cons c t ih =>
    show (Jvm.Cond.and c (allAtoms t)).before a st = _
    rw [Jvm.Cond.before_and, ih, List.all_cons]
def words1 : List Jvm.Cond := Jvm.Cond.code x code maxLocals ret :: tables_1
theorem code_word {y : MethodName} {bytes : ByteArray} {mx : Nat} {rt : Option FieldType} {a : Array Value} {s : State} {m : MethodId} {meth : Method} {c : Code} (h1 : s.methodNamed? y = some m) (h2 : s.vm.method? m = some meth) (h3 : meth.code = some c) (h4 : c.code = bytes)
    (h5 : (c.maxLocals == mx && c.exceptionTable.isEmpty && decide (c.maxStack ≤ mostOperands) && decide (meth.sig.returnType = rt) && !meth.locks && decide (parseMethodDescriptor y.desc = some meth.sig)) = true) : (Jvm.Cond.code y bytes mx rt).before a s = true := by
  simp only [Bool.and_eq_true, beq_iff_eq, Bool.not_eq_true', decide_eq_true_eq] at h5
  obtain ⟨⟨⟨⟨⟨g1, g2⟩, g3⟩, g4⟩, g5⟩, g6⟩ := h5
  simp [Cond.before, Cond.holds, Cond.value, h1, h2, h3, h4, g1, g2, g3, g4, g5, g6]
def isCode : Jvm.Cond → Bool
  | .code _ _ _ _ => true
  | _ => false
theorem all_split {L : List Jvm.Cond} {P : Jvm.Cond → Bool} (h1 : L.all (fun c => isCode c || P c) = true) (h2 : ∀ c ∈ L.filter isCode, P c = true) : L.all P = true := by
  refine List.all_eq_true.mpr fun c hc => ?_
  have h := List.all_eq_true.mp h1 c hc
  rcases Bool.eq_false_or_eq_true (isCode c) with hi | hi
  · exact h2 c (List.mem_filter.mpr ⟨hc, hi⟩)
  · simpa [hi] using h
set_option maxRecDepth 65536 in
theorem w_c0 : (Jvm.Cond.code x code maxLocals ret).before args0 about1 = true := code_word (m := ⟨1, 1⟩) (meth := k1m1) (c := k1c1) (by decide +kernel) rfl rfl rfl (by decide +kernel)
set_option maxRecDepth 65536 in
theorem w_c1 : (Jvm.Cond.code ({ cls := "java/lang/Long", name := "valueOf", desc := "(J)Ljava/lang/Long;" } : Jvm.MethodName) jdk_35_method_24_code (3 : Nat) (Option.some (FieldType.object "java/lang/Long"))).before args0 about1 = true := code_word (m := ⟨10, 0⟩) (meth := k10m0) (c := k10c0) (by decide +kernel) rfl rfl rfl (by decide +kernel)
set_option maxRecDepth 65536 in
theorem w_c2 : (Jvm.Cond.code ({ cls := "com/example/acidb/acidb/engine/LockedRow", name := "<init>", desc := "(Ljava/lang/Object;)V" } : Jvm.MethodName) prog_36_method_1_code (2 : Nat) (Option.none : Option Jvm.ClassFile.FieldType)).before args0 about1 = true := code_word (m := ⟨7, 0⟩) (meth := k7m0) (c := k7c0) (by decide +kernel) rfl rfl rfl (by decide +kernel)
set_option maxRecDepth 65536 in
theorem w_c3 : (Jvm.Cond.code ({ cls := "java/lang/Object", name := "<init>", desc := "()V" } : Jvm.MethodName) object_method_1_code (1 : Nat) (Option.none : Option Jvm.ClassFile.FieldType)).before args0 about1 = true := code_word (m := ⟨0, 0⟩) (meth := k0m0) (c := k0c0) (by decide +kernel) rfl rfl rfl (by decide +kernel)
set_option maxRecDepth 65536 in
theorem w_c4 : (Jvm.Cond.code ({ cls := "com/example/acidb/acidb/engine/Transaction", name := "<init>", desc := "(Lcom/example/acidb/acidb/engine/IsolationLevel;)V" } : Jvm.MethodName) prog_61_method_1_code (2 : Nat) (Option.none : Option Jvm.ClassFile.FieldType)).before args0 about1 = true := code_word (m := ⟨12, 0⟩) (meth := k12m0) (c := k12c0) (by decide +kernel) rfl rfl rfl (by decide +kernel)
set_option maxRecDepth 65536 in
theorem w_c5 : (Jvm.Cond.code ({ cls := "java/util/LinkedHashMap", name := "<init>", desc := "()V" } : Jvm.MethodName) jdk_94_method_16_code (1 : Nat) (Option.none : Option Jvm.ClassFile.FieldType)).before args0 about1 = true := code_word (m := ⟨18, 0⟩) (meth := k18m0) (c := k18c0) (by decide +kernel) rfl rfl rfl (by decide +kernel)
set_option maxRecDepth 65536 in
theorem w_c6 : (Jvm.Cond.code ({ cls := "java/util/HashMap", name := "<init>", desc := "()V" } : Jvm.MethodName) jdk_69_method_7_code (1 : Nat) (Option.none : Option Jvm.ClassFile.FieldType)).before args0 about1 = true := code_word (m := ⟨16, 0⟩) (meth := k16m0) (c := k16c0) (by decide +kernel) rfl rfl rfl (by decide +kernel)
set_option maxRecDepth 65536 in
theorem w_c7 : (Jvm.Cond.code ({ cls := "java/util/AbstractMap", name := "<init>", desc := "()V" } : Jvm.MethodName) jdk_71_method_1_code (1 : Nat) (Option.none : Option Jvm.ClassFile.FieldType)).before args0 about1 = true := code_word (m := ⟨14, 0⟩) (meth := k14m0) (c := k14c0) (by decide +kernel) rfl rfl rfl (by decide +kernel)
set_option maxRecDepth 65536 in
theorem w_c8 : (Jvm.Cond.code ({ cls := "com/example/acidb/acidb/engine/LockedRow", name := "isFree", desc := "()Z" } : Jvm.MethodName) prog_36_method_6_code (1 : Nat) (Option.some FieldType.boolean)).before args0 about1 = true := code_word (m := ⟨7, 4⟩) (meth := k7m4) (c := k7c4) (by decide +kernel) rfl rfl rfl (by decide +kernel)
set_option maxRecDepth 65536 in
theorem w_c9 : (Jvm.Cond.code ({ cls := "com/example/acidb/acidb/engine/LockedRow", name := "request", desc := "(Lcom/example/acidb/acidb/engine/Transaction;Lcom/example/acidb/acidb/sql/LockMode;)Lcom/example/acidb/acidb/engine/LockedRow$Request;" } : Jvm.MethodName) prog_36_method_3_code (4 : Nat) (Option.some (FieldType.object "com/example/acidb/acidb/engine/LockedRow$Request"))).before args0 about1 = true := code_word (m := ⟨7, 1⟩) (meth := k7m1) (c := k7c1) (by decide +kernel) rfl rfl rfl (by decide +kernel)
set_option maxRecDepth 65536 in
theorem w_c10 : (Jvm.Cond.code ({ cls := "com/example/acidb/acidb/engine/LockedRow", name := "isHeldBy", desc := "(Lcom/example/acidb/acidb/engine/Transaction;)Z" } : Jvm.MethodName) prog_36_method_13_code (2 : Nat) (Option.some FieldType.boolean)).before args0 about1 = true := code_word (m := ⟨7, 5⟩) (meth := k7m5) (c := k7c5) (by decide +kernel) rfl rfl rfl (by decide +kernel)
set_option maxRecDepth 65536 in
theorem w_c11 : (Jvm.Cond.code ({ cls := "com/example/acidb/acidb/engine/LockedRow", name := "sharedBy", desc := "(Lcom/example/acidb/acidb/engine/Transaction;)Lcom/example/acidb/acidb/engine/LockedRow$Request;" } : Jvm.MethodName) prog_36_method_14_code (5 : Nat) (Option.some (FieldType.object "com/example/acidb/acidb/engine/LockedRow$Request"))).before args0 about1 = true := code_word (m := ⟨7, 6⟩) (meth := k7m6) (c := k7c6) (by decide +kernel) rfl rfl rfl (by decide +kernel)
set_option maxRecDepth 65536 in
theorem w_c12 : (Jvm.Cond.code ({ cls := "com/example/acidb/acidb/engine/LockedRow$Request", name := "<init>", desc := "(Lcom/example/acidb/acidb/engine/LockedRow;Lcom/example/acidb/acidb/engine/Transaction;Lcom/example/acidb/acidb/sql/LockMode;Z)V" } : Jvm.MethodName) prog_37_method_1_code (5 : Nat) (Option.none : Option Jvm.ClassFile.FieldType)).before args0 about1 = true := code_word (m := ⟨19, 0⟩) (meth := k19m0) (c := k19c0) (by decide +kernel) rfl rfl rfl (by decide +kernel)
set_option maxRecDepth 65536 in
theorem w_c13 : (Jvm.Cond.code ({ cls := "com/example/acidb/acidb/engine/LockedRow", name := "canGrant", desc := "(Lcom/example/acidb/acidb/engine/LockedRow$Request;)Z" } : Jvm.MethodName) prog_36_method_15_code (2 : Nat) (Option.some FieldType.boolean)).before args0 about1 = true := code_word (m := ⟨7, 7⟩) (meth := k7m7) (c := k7c7) (by decide +kernel) rfl rfl rfl (by decide +kernel)
set_option maxRecDepth 65536 in
theorem w_c14 : (Jvm.Cond.code ({ cls := "com/example/acidb/acidb/engine/LockedRow", name := "inTheWay", desc := "(Lcom/example/acidb/acidb/engine/LockedRow$Request;)Ljava/util/List;" } : Jvm.MethodName) prog_36_method_16_code (6 : Nat) (Option.some (FieldType.object "java/util/List"))).before args0 about1 = true := code_word (m := ⟨7, 8⟩) (meth := k7m8) (c := k7c8) (by decide +kernel) rfl rfl rfl (by decide +kernel)
set_option maxRecDepth 65536 in
theorem w_c15 : (Jvm.Cond.code ({ cls := "java/util/ArrayList", name := "<init>", desc := "()V" } : Jvm.MethodName) jdk_38_method_2_code (1 : Nat) (Option.none : Option Jvm.ClassFile.FieldType)).before args0 about1 = true := code_word (m := ⟨27, 1⟩) (meth := k27m1) (c := k27c1) (by decide +kernel) rfl rfl rfl (by decide +kernel)
set_option maxRecDepth 65536 in
theorem w_c16 : (Jvm.Cond.code ({ cls := "java/util/AbstractList", name := "<init>", desc := "()V" } : Jvm.MethodName) jdk_39_method_1_code (1 : Nat) (Option.none : Option Jvm.ClassFile.FieldType)).before args0 about1 = true := code_word (m := ⟨25, 0⟩) (meth := k25m0) (c := k25c0) (by decide +kernel) rfl rfl rfl (by decide +kernel)
set_option maxRecDepth 65536 in
theorem w_c17 : (Jvm.Cond.code ({ cls := "java/util/AbstractCollection", name := "<init>", desc := "()V" } : Jvm.MethodName) jdk_22_method_1_code (1 : Nat) (Option.none : Option Jvm.ClassFile.FieldType)).before args0 about1 = true := code_word (m := ⟨22, 0⟩) (meth := k22m0) (c := k22c0) (by decide +kernel) rfl rfl rfl (by decide +kernel)
set_option maxRecDepth 65536 in
theorem w_c18 : (Jvm.Cond.code ({ cls := "java/util/ArrayList", name := "isEmpty", desc := "()Z" } : Jvm.MethodName) jdk_38_method_9_code (1 : Nat) (Option.some FieldType.boolean)).before args0 about1 = true := code_word (m := ⟨27, 5⟩) (meth := k27m5) (c := k27c5) (by decide +kernel) rfl rfl rfl (by decide +kernel)
set_option maxRecDepth 65536 in
theorem w_c19 : (Jvm.Cond.code ({ cls := "com/example/acidb/acidb/engine/LockedRow", name := "grant", desc := "(Lcom/example/acidb/acidb/engine/LockedRow$Request;)V" } : Jvm.MethodName) prog_36_method_17_code (3 : Nat) (Option.none : Option Jvm.ClassFile.FieldType)).before args0 about1 = true := code_word (m := ⟨7, 9⟩) (meth := k7m9) (c := k7c9) (by decide +kernel) rfl rfl rfl (by decide +kernel)
set_option maxRecDepth 65536 in
theorem w_c20 : (Jvm.Cond.code ({ cls := "com/example/acidb/acidb/engine/LockedRow", name := "others", desc := "()Ljava/util/List;" } : Jvm.MethodName) prog_36_method_20_code (1 : Nat) (Option.some (FieldType.object "java/util/List"))).before args0 about1 = true := code_word (m := ⟨7, 12⟩) (meth := k7m12) (c := k7c12) (by decide +kernel) rfl rfl rfl (by decide +kernel)
set_option maxRecDepth 65536 in
theorem w_c21 : (Jvm.Cond.code ({ cls := "java/util/ArrayList", name := "<init>", desc := "(I)V" } : Jvm.MethodName) jdk_38_method_1_code (2 : Nat) (Option.none : Option Jvm.ClassFile.FieldType)).before args0 about1 = true := code_word (m := ⟨27, 0⟩) (meth := k27m0) (c := k27c0) (by decide +kernel) rfl rfl rfl (by decide +kernel)
set_option maxRecDepth 65536 in
theorem w_c22 : (Jvm.Cond.code ({ cls := "java/util/ArrayList", name := "add", desc := "(Ljava/lang/Object;)Z" } : Jvm.MethodName) jdk_38_method_25_code (2 : Nat) (Option.some FieldType.boolean)).before args0 about1 = true := code_word (m := ⟨27, 13⟩) (meth := k27m13) (c := k27c13) (by decide +kernel) rfl rfl rfl (by decide +kernel)
set_option maxRecDepth 65536 in
theorem w_c23 : (Jvm.Cond.code ({ cls := "java/util/ArrayList", name := "add", desc := "(Ljava/lang/Object;[Ljava/lang/Object;I)V" } : Jvm.MethodName) jdk_38_method_24_code (4 : Nat) (Option.none : Option Jvm.ClassFile.FieldType)).before args0 about1 = true := code_word (m := ⟨27, 12⟩) (meth := k27m12) (c := k27c12) (by decide +kernel) rfl rfl rfl (by decide +kernel)
set_option maxRecDepth 65536 in
theorem w_c24 : (Jvm.Cond.code ({ cls := "com/example/acidb/acidb/engine/LockedRow", name := "tidy", desc := "()V" } : Jvm.MethodName) prog_36_method_19_code (1 : Nat) (Option.none : Option Jvm.ClassFile.FieldType)).before args0 about1 = true := code_word (m := ⟨7, 11⟩) (meth := k7m11) (c := k7c11) (by decide +kernel) rfl rfl rfl (by decide +kernel)
set_option maxRecDepth 65536 in
theorem w_c25 : (Jvm.Cond.code ({ cls := "com/example/acidb/acidb/engine/LockedRow", name := "release", desc := "(Lcom/example/acidb/acidb/engine/Transaction;)Z" } : Jvm.MethodName) prog_36_method_5_code (3 : Nat) (Option.some FieldType.boolean)).before args0 about1 = true := code_word (m := ⟨7, 3⟩) (meth := k7m3) (c := k7c3) (by decide +kernel) rfl rfl rfl (by decide +kernel)
set_option maxRecDepth 65536 in
theorem w_c26 : (Jvm.Cond.code ({ cls := "java/util/ArrayList", name := "iterator", desc := "()Ljava/util/Iterator;" } : Jvm.MethodName) jdk_38_method_55_code (1 : Nat) (Option.some (FieldType.object "java/util/Iterator"))).before args0 about1 = true := code_word (m := ⟨27, 16⟩) (meth := k27m16) (c := k27c16) (by decide +kernel) rfl rfl rfl (by decide +kernel)
set_option maxRecDepth 65536 in
theorem w_c27 : (Jvm.Cond.code ({ cls := "java/util/ArrayList$Itr", name := "<init>", desc := "(Ljava/util/ArrayList;)V" } : Jvm.MethodName) jdk_49_method_1_code (2 : Nat) (Option.none : Option Jvm.ClassFile.FieldType)).before args0 about1 = true := code_word (m := ⟨29, 0⟩) (meth := k29m0) (c := k29c0) (by decide +kernel) rfl rfl rfl (by decide +kernel)
set_option maxRecDepth 65536 in
theorem w_c28 : (Jvm.Cond.code ({ cls := "java/util/ArrayList$Itr", name := "hasNext", desc := "()Z" } : Jvm.MethodName) jdk_49_method_2_code (1 : Nat) (Option.some FieldType.boolean)).before args0 about1 = true := code_word (m := ⟨29, 1⟩) (meth := k29m1) (c := k29c1) (by decide +kernel) rfl rfl rfl (by decide +kernel)
set_option maxRecDepth 65536 in
theorem w_c29 : (Jvm.Cond.code ({ cls := "java/util/ArrayList$Itr", name := "next", desc := "()Ljava/lang/Object;" } : Jvm.MethodName) jdk_49_method_3_code (3 : Nat) (Option.some (FieldType.object "java/lang/Object"))).before args0 about1 = true := code_word (m := ⟨29, 2⟩) (meth := k29m2) (c := k29c2) (by decide +kernel) rfl rfl rfl (by decide +kernel)
set_option maxRecDepth 65536 in
theorem w_c30 : (Jvm.Cond.code ({ cls := "java/util/ArrayList$Itr", name := "checkForComodification", desc := "()V" } : Jvm.MethodName) jdk_49_method_6_code (1 : Nat) (Option.none : Option Jvm.ClassFile.FieldType)).before args0 about1 = true := code_word (m := ⟨29, 3⟩) (meth := k29m3) (c := k29c3) (by decide +kernel) rfl rfl rfl (by decide +kernel)
set_option maxRecDepth 65536 in
theorem w_c31 : (Jvm.Cond.code ({ cls := "com/example/acidb/acidb/engine/LockedRow", name := "grantWaiting", desc := "()Z" } : Jvm.MethodName) prog_36_method_18_code (4 : Nat) (Option.some FieldType.boolean)).before args0 about1 = true := code_word (m := ⟨7, 10⟩) (meth := k7m10) (c := k7c10) (by decide +kernel) rfl rfl rfl (by decide +kernel)
set_option maxRecDepth 65536 in
theorem w_c32 : (Jvm.Cond.code ({ cls := "java/util/List", name := "copyOf", desc := "(Ljava/util/Collection;)Ljava/util/List;" } : Jvm.MethodName) jdk_40_method_48_code (1 : Nat) (Option.some (FieldType.object "java/util/List"))).before args0 about1 = true := code_word (m := ⟨24, 9⟩) (meth := k24m9) (c := k24c9) (by decide +kernel) rfl rfl rfl (by decide +kernel)
set_option maxRecDepth 65536 in
theorem w_c33 : (Jvm.Cond.code ({ cls := "java/util/ImmutableCollections", name := "listCopy", desc := "(Ljava/util/Collection;)Ljava/util/List;" } : Jvm.MethodName) jdk_56_method_3_code (2 : Nat) (Option.some (FieldType.object "java/util/List"))).before args0 about1 = true := code_word (m := ⟨30, 1⟩) (meth := k30m1) (c := k30c1) (by decide +kernel) rfl rfl rfl (by decide +kernel)
set_option maxRecDepth 65536 in
theorem w_c34 : (Jvm.Cond.code ({ cls := "java/util/ArrayList", name := "toArray", desc := "()[Ljava/lang/Object;" } : Jvm.MethodName) jdk_38_method_16_code (1 : Nat) (Option.some (FieldType.array (FieldType.object "java/lang/Object")))).before args0 about1 = true := code_word (m := ⟨27, 9⟩) (meth := k27m9) (c := k27c9) (by decide +kernel) rfl rfl rfl (by decide +kernel)
set_option maxRecDepth 65536 in
theorem w_c35 : (Jvm.Cond.code ({ cls := "java/util/Arrays", name := "copyOf", desc := "([Ljava/lang/Object;I)[Ljava/lang/Object;" } : Jvm.MethodName) jdk_65_method_119_code (2 : Nat) (Option.some (FieldType.array (FieldType.object "java/lang/Object")))).before args0 about1 = true := code_word (m := ⟨35, 1⟩) (meth := k35m1) (c := k35c1) (by decide +kernel) rfl rfl rfl (by decide +kernel)
set_option maxRecDepth 65536 in
theorem w_c36 : (Jvm.Cond.code ({ cls := "java/util/Arrays", name := "copyOf", desc := "([Ljava/lang/Object;ILjava/lang/Class;)[Ljava/lang/Object;" } : Jvm.MethodName) jdk_65_method_120_code (4 : Nat) (Option.some (FieldType.array (FieldType.object "java/lang/Object")))).before args0 about1 = true := code_word (m := ⟨35, 2⟩) (meth := k35m2) (c := k35c2) (by decide +kernel) rfl rfl rfl (by decide +kernel)
set_option maxRecDepth 65536 in
theorem w_c37 : (Jvm.Cond.code ({ cls := "java/lang/Math", name := "min", desc := "(II)I" } : Jvm.MethodName) jdk_29_method_69_code (2 : Nat) (Option.some FieldType.int)).before args0 about1 = true := code_word (m := ⟨36, 2⟩) (meth := k36m2) (c := k36c2) (by decide +kernel) rfl rfl rfl (by decide +kernel)
set_option maxRecDepth 65536 in
theorem w_c38 : (Jvm.Cond.code ({ cls := "java/util/List", name := "of", desc := "([Ljava/lang/Object;)Ljava/util/List;" } : Jvm.MethodName) jdk_40_method_47_code (2 : Nat) (Option.some (FieldType.object "java/util/List"))).before args0 about1 = true := code_word (m := ⟨24, 8⟩) (meth := k24m8) (c := k24c8) (by decide +kernel) rfl rfl rfl (by decide +kernel)
set_option maxRecDepth 65536 in
theorem w_c39 : (Jvm.Cond.code ({ cls := "java/util/ImmutableCollections$List12", name := "<init>", desc := "(Ljava/lang/Object;)V" } : Jvm.MethodName) jdk_44_method_1_code (2 : Nat) (Option.none : Option Jvm.ClassFile.FieldType)).before args0 about1 = true := code_word (m := ⟨33, 0⟩) (meth := k33m0) (c := k33c0) (by decide +kernel) rfl rfl rfl (by decide +kernel)
set_option maxRecDepth 65536 in
theorem w_c40 : (Jvm.Cond.code ({ cls := "java/util/ImmutableCollections$AbstractImmutableList", name := "<init>", desc := "()V" } : Jvm.MethodName) jdk_46_method_1_code (1 : Nat) (Option.none : Option Jvm.ClassFile.FieldType)).before args0 about1 = true := code_word (m := ⟨32, 0⟩) (meth := k32m0) (c := k32c0) (by decide +kernel) rfl rfl rfl (by decide +kernel)
set_option maxRecDepth 65536 in
theorem w_c41 : (Jvm.Cond.code ({ cls := "java/util/ImmutableCollections$AbstractImmutableCollection", name := "<init>", desc := "()V" } : Jvm.MethodName) jdk_47_method_1_code (1 : Nat) (Option.none : Option Jvm.ClassFile.FieldType)).before args0 about1 = true := code_word (m := ⟨31, 0⟩) (meth := k31m0) (c := k31c0) (by decide +kernel) rfl rfl rfl (by decide +kernel)
set_option maxRecDepth 65536 in
theorem w_c42 : (Jvm.Cond.code ({ cls := "java/util/Objects", name := "requireNonNull", desc := "(Ljava/lang/Object;)Ljava/lang/Object;" } : Jvm.MethodName) jdk_31_method_10_code (1 : Nat) (Option.some (FieldType.object "java/lang/Object"))).before args0 about1 = true := code_word (m := ⟨38, 1⟩) (meth := k38m1) (c := k38c1) (by decide +kernel) rfl rfl rfl (by decide +kernel)
set_option maxRecDepth 65536 in
theorem w_c43 : (Jvm.Cond.code ({ cls := "java/util/ImmutableCollections$AbstractImmutableList", name := "iterator", desc := "()Ljava/util/Iterator;" } : Jvm.MethodName) jdk_46_method_10_code (1 : Nat) (Option.some (FieldType.object "java/util/Iterator"))).before args0 about1 = true := code_word (m := ⟨32, 1⟩) (meth := k32m1) (c := k32c1) (by decide +kernel) rfl rfl rfl (by decide +kernel)
set_option maxRecDepth 65536 in
theorem w_c44 : (Jvm.Cond.code ({ cls := "java/util/ImmutableCollections$List12", name := "size", desc := "()I" } : Jvm.MethodName) jdk_44_method_3_code (1 : Nat) (Option.some FieldType.int)).before args0 about1 = true := code_word (m := ⟨33, 2⟩) (meth := k33m2) (c := k33c2) (by decide +kernel) rfl rfl rfl (by decide +kernel)
set_option maxRecDepth 65536 in
theorem w_c45 : (Jvm.Cond.code ({ cls := "java/util/ImmutableCollections$ListItr", name := "<init>", desc := "(Ljava/util/List;I)V" } : Jvm.MethodName) jdk_53_method_1_code (3 : Nat) (Option.none : Option Jvm.ClassFile.FieldType)).before args0 about1 = true := code_word (m := ⟨40, 0⟩) (meth := k40m0) (c := k40c0) (by decide +kernel) rfl rfl rfl (by decide +kernel)
set_option maxRecDepth 65536 in
theorem w_c46 : (Jvm.Cond.code ({ cls := "java/util/ImmutableCollections$ListItr", name := "hasNext", desc := "()Z" } : Jvm.MethodName) jdk_53_method_3_code (1 : Nat) (Option.some FieldType.boolean)).before args0 about1 = true := code_word (m := ⟨40, 1⟩) (meth := k40m1) (c := k40c1) (by decide +kernel) rfl rfl rfl (by decide +kernel)
set_option maxRecDepth 65536 in
theorem w_c47 : (Jvm.Cond.code ({ cls := "java/util/ImmutableCollections$List12", name := "get", desc := "(I)Ljava/lang/Object;" } : Jvm.MethodName) jdk_44_method_5_code (2 : Nat) (Option.some (FieldType.object "java/lang/Object"))).before args0 about1 = true := code_word (m := ⟨33, 3⟩) (meth := k33m3) (c := k33c3) (by decide +kernel) rfl rfl rfl (by decide +kernel)
set_option maxRecDepth 65536 in
theorem w_c48 : (Jvm.Cond.code ({ cls := "java/util/ArrayList", name := "remove", desc := "(Ljava/lang/Object;)Z" } : Jvm.MethodName) jdk_38_method_38_code (5 : Nat) (Option.some FieldType.boolean)).before args0 about1 = true := code_word (m := ⟨27, 14⟩) (meth := k27m14) (c := k27c14) (by decide +kernel) rfl rfl rfl (by decide +kernel)
set_option maxRecDepth 65536 in
theorem w_c49 : (Jvm.Cond.code ({ cls := "java/lang/Object", name := "equals", desc := "(Ljava/lang/Object;)Z" } : Jvm.MethodName) object_method_4_code (2 : Nat) (Option.some FieldType.boolean)).before args0 about1 = true := code_word (m := ⟨0, 2⟩) (meth := k0m2) (c := k0c2) (by decide +kernel) rfl rfl rfl (by decide +kernel)
set_option maxRecDepth 65536 in
theorem w_c50 : (Jvm.Cond.code ({ cls := "java/util/ArrayList", name := "fastRemove", desc := "([Ljava/lang/Object;I)V" } : Jvm.MethodName) jdk_38_method_39_code (4 : Nat) (Option.none : Option Jvm.ClassFile.FieldType)).before args0 about1 = true := code_word (m := ⟨27, 15⟩) (meth := k27m15) (c := k27c15) (by decide +kernel) rfl rfl rfl (by decide +kernel)
set_option maxRecDepth 65536 in
theorem w_c51 : (Jvm.Cond.code ({ cls := "java/util/List", name := "of", desc := "()Ljava/util/List;" } : Jvm.MethodName) jdk_40_method_36_code (0 : Nat) (Option.some (FieldType.object "java/util/List"))).before args0 about1 = true := code_word (m := ⟨24, 7⟩) (meth := k24m7) (c := k24c7) (by decide +kernel) rfl rfl rfl (by decide +kernel)
set_option maxRecDepth 65536 in
theorem w_c52 : (Jvm.Cond.code ({ cls := "java/util/ImmutableCollections$ListN", name := "size", desc := "()I" } : Jvm.MethodName) jdk_45_method_3_code (1 : Nat) (Option.some FieldType.int)).before args0 about1 = true := code_word (m := ⟨34, 0⟩) (meth := k34m0) (c := k34c0) (by decide +kernel) rfl rfl rfl (by decide +kernel)
set_option maxRecDepth 65536 in
theorem w_c53 : (Jvm.Cond.code ({ cls := "java/lang/Long", name := "<init>", desc := "(J)V" } : Jvm.MethodName) jdk_35_method_26_code (3 : Nat) (Option.none : Option Jvm.ClassFile.FieldType)).before args0 about1 = true := code_word (m := ⟨10, 1⟩) (meth := k10m1) (c := k10c1) (by decide +kernel) rfl rfl rfl (by decide +kernel)
set_option maxRecDepth 65536 in
theorem w_c54 : (Jvm.Cond.code ({ cls := "java/lang/Number", name := "<init>", desc := "()V" } : Jvm.MethodName) jdk_18_method_1_code (1 : Nat) (Option.none : Option Jvm.ClassFile.FieldType)).before args0 about1 = true := code_word (m := ⟨8, 0⟩) (meth := k8m0) (c := k8c0) (by decide +kernel) rfl rfl rfl (by decide +kernel)
set_option maxRecDepth 65536 in
theorem w_c55 : (Jvm.Cond.code ({ cls := "java/util/ArrayList", name := "size", desc := "()I" } : Jvm.MethodName) jdk_38_method_8_code (1 : Nat) (Option.some FieldType.int)).before args0 about1 = true := code_word (m := ⟨27, 4⟩) (meth := k27m4) (c := k27c4) (by decide +kernel) rfl rfl rfl (by decide +kernel)
set_option maxRecDepth 65536 in
theorem w_c56 : (Jvm.Cond.code ({ cls := "java/util/ArrayList", name := "get", desc := "(I)Ljava/lang/Object;" } : Jvm.MethodName) jdk_38_method_20_code (2 : Nat) (Option.some (FieldType.object "java/lang/Object"))).before args0 about1 = true := code_word (m := ⟨27, 11⟩) (meth := k27m11) (c := k27c11) (by decide +kernel) rfl rfl rfl (by decide +kernel)
set_option maxRecDepth 65536 in
theorem w_c57 : (Jvm.Cond.code ({ cls := "java/util/Objects", name := "checkIndex", desc := "(II)I" } : Jvm.MethodName) jdk_31_method_17_code (2 : Nat) (Option.some FieldType.int)).before args0 about1 = true := code_word (m := ⟨38, 2⟩) (meth := k38m2) (c := k38c2) (by decide +kernel) rfl rfl rfl (by decide +kernel)
set_option maxRecDepth 65536 in
theorem w_c58 : (Jvm.Cond.code ({ cls := "jdk/internal/util/Preconditions", name := "checkIndex", desc := "(IILjava/util/function/BiFunction;)I" } : Jvm.MethodName) jdk_41_method_11_code (3 : Nat) (Option.some FieldType.int)).before args0 about1 = true := code_word (m := ⟨41, 1⟩) (meth := k41m1) (c := k41c1) (by decide +kernel) rfl rfl rfl (by decide +kernel)
set_option maxRecDepth 65536 in
theorem w_c59 : (Jvm.Cond.code ({ cls := "java/util/ArrayList", name := "elementData", desc := "(I)Ljava/lang/Object;" } : Jvm.MethodName) jdk_38_method_18_code (2 : Nat) (Option.some (FieldType.object "java/lang/Object"))).before args0 about1 = true := code_word (m := ⟨27, 10⟩) (meth := k27m10) (c := k27c10) (by decide +kernel) rfl rfl rfl (by decide +kernel)
set_option maxRecDepth 65536 in
theorem w_c60 : (Jvm.Cond.code ({ cls := "com/example/acidb/acidb/sql/LockMode", name := "isCompatibleWith", desc := "(Lcom/example/acidb/acidb/sql/LockMode;)Z" } : Jvm.MethodName) prog_86_method_4_code (2 : Nat) (Option.some FieldType.boolean)).before args0 about1 = true := code_word (m := ⟨6, 0⟩) (meth := k6m0) (c := k6c0) (by decide +kernel) rfl rfl rfl (by decide +kernel)
set_option maxRecDepth 65536 in
theorem w_c61 : (Jvm.Cond.code ({ cls := "java/util/ArrayList", name := "grow", desc := "()[Ljava/lang/Object;" } : Jvm.MethodName) jdk_38_method_7_code (1 : Nat) (Option.some (FieldType.array (FieldType.object "java/lang/Object")))).before args0 about1 = true := code_word (m := ⟨27, 3⟩) (meth := k27m3) (c := k27c3) (by decide +kernel) rfl rfl rfl (by decide +kernel)
set_option maxRecDepth 65536 in
theorem w_c62 : (Jvm.Cond.code ({ cls := "java/util/ArrayList", name := "grow", desc := "(I)[Ljava/lang/Object;" } : Jvm.MethodName) jdk_38_method_6_code (4 : Nat) (Option.some (FieldType.array (FieldType.object "java/lang/Object")))).before args0 about1 = true := code_word (m := ⟨27, 2⟩) (meth := k27m2) (c := k27c2) (by decide +kernel) rfl rfl rfl (by decide +kernel)
set_option maxRecDepth 65536 in
theorem w_c63 : (Jvm.Cond.code ({ cls := "java/lang/Math", name := "max", desc := "(II)I" } : Jvm.MethodName) jdk_29_method_65_code (2 : Nat) (Option.some FieldType.int)).before args0 about1 = true := code_word (m := ⟨36, 1⟩) (meth := k36m1) (c := k36c1) (by decide +kernel) rfl rfl rfl (by decide +kernel)
set_option maxRecDepth 65536 in
theorem w_c64 : (Jvm.Cond.code ({ cls := "java/util/ImmutableCollections$List12", name := "<init>", desc := "(Ljava/lang/Object;Ljava/lang/Object;)V" } : Jvm.MethodName) jdk_44_method_2_code (3 : Nat) (Option.none : Option Jvm.ClassFile.FieldType)).before args0 about1 = true := code_word (m := ⟨33, 1⟩) (meth := k33m1) (c := k33c1) (by decide +kernel) rfl rfl rfl (by decide +kernel)
set_option maxRecDepth 65536 in
theorem w_c65 : (Jvm.Cond.code ({ cls := "com/example/acidb/acidb/engine/LockedRow", name := "cancel", desc := "(Lcom/example/acidb/acidb/engine/LockedRow$Request;)Z" } : Jvm.MethodName) prog_36_method_4_code (2 : Nat) (Option.some FieldType.boolean)).before args0 about1 = true := code_word (m := ⟨7, 2⟩) (meth := k7m2) (c := k7c2) (by decide +kernel) rfl rfl rfl (by decide +kernel)
set_option maxRecDepth 65536 in
theorem w_c66 : (Jvm.Cond.code ({ cls := "java/util/ArrayList", name := "contains", desc := "(Ljava/lang/Object;)Z" } : Jvm.MethodName) jdk_38_method_10_code (2 : Nat) (Option.some FieldType.boolean)).before args0 about1 = true := code_word (m := ⟨27, 6⟩) (meth := k27m6) (c := k27c6) (by decide +kernel) rfl rfl rfl (by decide +kernel)
set_option maxRecDepth 65536 in
theorem w_c67 : (Jvm.Cond.code ({ cls := "java/util/ArrayList", name := "indexOf", desc := "(Ljava/lang/Object;)I" } : Jvm.MethodName) jdk_38_method_11_code (2 : Nat) (Option.some FieldType.int)).before args0 about1 = true := code_word (m := ⟨27, 7⟩) (meth := k27m7) (c := k27c7) (by decide +kernel) rfl rfl rfl (by decide +kernel)
set_option maxRecDepth 65536 in
theorem w_c68 : (Jvm.Cond.code ({ cls := "java/util/ArrayList", name := "indexOfRange", desc := "(Ljava/lang/Object;II)I" } : Jvm.MethodName) jdk_38_method_12_code (6 : Nat) (Option.some FieldType.int)).before args0 about1 = true := code_word (m := ⟨27, 8⟩) (meth := k27m8) (c := k27c8) (by decide +kernel) rfl rfl rfl (by decide +kernel)
abbrev z0 : Jvm.MethodName := ⟨"java/lang/Long", "valueOf", "(J)Ljava/lang/Long;"⟩
abbrev z1 : Jvm.MethodName := ⟨"com/example/acidb/acidb/engine/LockedRow", "<init>", "(Ljava/lang/Object;)V"⟩
abbrev z2 : Jvm.MethodName := ⟨"java/lang/Object", "<init>", "()V"⟩
abbrev z3 : Jvm.MethodName := ⟨"com/example/acidb/acidb/engine/Transaction", "<init>", "(Lcom/example/acidb/acidb/engine/IsolationLevel;)V"⟩
abbrev z4 : Jvm.MethodName := ⟨"java/util/LinkedHashMap", "<init>", "()V"⟩
abbrev z5 : Jvm.MethodName := ⟨"java/util/HashMap", "<init>", "()V"⟩
abbrev z6 : Jvm.MethodName := ⟨"java/util/AbstractMap", "<init>", "()V"⟩
abbrev z7 : Jvm.MethodName := ⟨"com/example/acidb/acidb/engine/LockedRow", "isFree", "()Z"⟩
abbrev z8 : Jvm.MethodName := ⟨"com/example/acidb/acidb/engine/LockedRow", "request", "(Lcom/example/acidb/acidb/engine/Transaction;Lcom/example/acidb/acidb/sql/LockMode;)Lcom/example/acidb/acidb/engine/LockedRow$Request;"⟩
abbrev z9 : Jvm.MethodName := ⟨"com/example/acidb/acidb/engine/LockedRow", "isHeldBy", "(Lcom/example/acidb/acidb/engine/Transaction;)Z"⟩
abbrev z10 : Jvm.MethodName := ⟨"com/example/acidb/acidb/engine/LockedRow", "sharedBy", "(Lcom/example/acidb/acidb/engine/Transaction;)Lcom/example/acidb/acidb/engine/LockedRow$Request;"⟩
abbrev z11 : Jvm.MethodName := ⟨"com/example/acidb/acidb/engine/LockedRow$Request", "<init>", "(Lcom/example/acidb/acidb/engine/LockedRow;Lcom/example/acidb/acidb/engine/Transaction;Lcom/example/acidb/acidb/sql/LockMode;Z)V"⟩
abbrev z12 : Jvm.MethodName := ⟨"com/example/acidb/acidb/engine/LockedRow", "canGrant", "(Lcom/example/acidb/acidb/engine/LockedRow$Request;)Z"⟩
abbrev z13 : Jvm.MethodName := ⟨"com/example/acidb/acidb/engine/LockedRow", "inTheWay", "(Lcom/example/acidb/acidb/engine/LockedRow$Request;)Ljava/util/List;"⟩
abbrev z14 : Jvm.MethodName := ⟨"java/util/ArrayList", "<init>", "()V"⟩
abbrev z15 : Jvm.MethodName := ⟨"java/util/AbstractList", "<init>", "()V"⟩
abbrev z16 : Jvm.MethodName := ⟨"java/util/AbstractCollection", "<init>", "()V"⟩
abbrev z17 : Jvm.MethodName := ⟨"java/util/ArrayList", "isEmpty", "()Z"⟩
abbrev z18 : Jvm.MethodName := ⟨"com/example/acidb/acidb/engine/LockedRow", "grant", "(Lcom/example/acidb/acidb/engine/LockedRow$Request;)V"⟩
abbrev z19 : Jvm.MethodName := ⟨"com/example/acidb/acidb/engine/LockedRow", "others", "()Ljava/util/List;"⟩
abbrev z20 : Jvm.MethodName := ⟨"java/util/ArrayList", "<init>", "(I)V"⟩
abbrev z21 : Jvm.MethodName := ⟨"java/util/ArrayList", "add", "(Ljava/lang/Object;)Z"⟩
abbrev z22 : Jvm.MethodName := ⟨"java/util/ArrayList", "add", "(Ljava/lang/Object;[Ljava/lang/Object;I)V"⟩
abbrev z23 : Jvm.MethodName := ⟨"com/example/acidb/acidb/engine/LockedRow", "tidy", "()V"⟩
abbrev z24 : Jvm.MethodName := ⟨"com/example/acidb/acidb/engine/LockedRow", "release", "(Lcom/example/acidb/acidb/engine/Transaction;)Z"⟩
abbrev z25 : Jvm.MethodName := ⟨"java/util/ArrayList", "iterator", "()Ljava/util/Iterator;"⟩
abbrev z26 : Jvm.MethodName := ⟨"java/util/ArrayList$Itr", "<init>", "(Ljava/util/ArrayList;)V"⟩
abbrev z27 : Jvm.MethodName := ⟨"java/util/ArrayList$Itr", "hasNext", "()Z"⟩
abbrev z28 : Jvm.MethodName := ⟨"java/util/ArrayList$Itr", "next", "()Ljava/lang/Object;"⟩
abbrev z29 : Jvm.MethodName := ⟨"java/util/ArrayList$Itr", "checkForComodification", "()V"⟩
abbrev z30 : Jvm.MethodName := ⟨"com/example/acidb/acidb/engine/LockedRow", "grantWaiting", "()Z"⟩
abbrev z31 : Jvm.MethodName := ⟨"java/util/List", "copyOf", "(Ljava/util/Collection;)Ljava/util/List;"⟩
abbrev z32 : Jvm.MethodName := ⟨"java/util/ImmutableCollections", "listCopy", "(Ljava/util/Collection;)Ljava/util/List;"⟩
abbrev z33 : Jvm.MethodName := ⟨"java/util/ArrayList", "toArray", "()[Ljava/lang/Object;"⟩
abbrev z34 : Jvm.MethodName := ⟨"java/util/Arrays", "copyOf", "([Ljava/lang/Object;I)[Ljava/lang/Object;"⟩
abbrev z35 : Jvm.MethodName := ⟨"java/util/Arrays", "copyOf", "([Ljava/lang/Object;ILjava/lang/Class;)[Ljava/lang/Object;"⟩
abbrev z36 : Jvm.MethodName := ⟨"java/lang/Math", "min", "(II)I"⟩
abbrev z37 : Jvm.MethodName := ⟨"java/util/List", "of", "([Ljava/lang/Object;)Ljava/util/List;"⟩
abbrev z38 : Jvm.MethodName := ⟨"java/util/ImmutableCollections$List12", "<init>", "(Ljava/lang/Object;)V"⟩
abbrev z39 : Jvm.MethodName := ⟨"java/util/ImmutableCollections$AbstractImmutableList", "<init>", "()V"⟩
abbrev z40 : Jvm.MethodName := ⟨"java/util/ImmutableCollections$AbstractImmutableCollection", "<init>", "()V"⟩
abbrev z41 : Jvm.MethodName := ⟨"java/util/Objects", "requireNonNull", "(Ljava/lang/Object;)Ljava/lang/Object;"⟩
abbrev z42 : Jvm.MethodName := ⟨"java/util/ImmutableCollections$AbstractImmutableList", "iterator", "()Ljava/util/Iterator;"⟩
abbrev z43 : Jvm.MethodName := ⟨"java/util/ImmutableCollections$List12", "size", "()I"⟩
abbrev z44 : Jvm.MethodName := ⟨"java/util/ImmutableCollections$ListItr", "<init>", "(Ljava/util/List;I)V"⟩
abbrev z45 : Jvm.MethodName := ⟨"java/util/ImmutableCollections$ListItr", "hasNext", "()Z"⟩
abbrev z46 : Jvm.MethodName := ⟨"java/util/ImmutableCollections$List12", "get", "(I)Ljava/lang/Object;"⟩
abbrev z47 : Jvm.MethodName := ⟨"java/util/ArrayList", "remove", "(Ljava/lang/Object;)Z"⟩
abbrev z48 : Jvm.MethodName := ⟨"java/lang/Object", "equals", "(Ljava/lang/Object;)Z"⟩
abbrev z49 : Jvm.MethodName := ⟨"java/util/ArrayList", "fastRemove", "([Ljava/lang/Object;I)V"⟩
abbrev z50 : Jvm.MethodName := ⟨"java/util/List", "of", "()Ljava/util/List;"⟩
abbrev z51 : Jvm.MethodName := ⟨"java/util/ImmutableCollections$ListN", "size", "()I"⟩
abbrev z52 : Jvm.MethodName := ⟨"java/lang/Long", "<init>", "(J)V"⟩
abbrev z53 : Jvm.MethodName := ⟨"java/lang/Number", "<init>", "()V"⟩
abbrev z54 : Jvm.MethodName := ⟨"java/util/ArrayList", "size", "()I"⟩
abbrev z55 : Jvm.MethodName := ⟨"java/util/ArrayList", "get", "(I)Ljava/lang/Object;"⟩
abbrev z56 : Jvm.MethodName := ⟨"java/util/Objects", "checkIndex", "(II)I"⟩
abbrev z57 : Jvm.MethodName := ⟨"jdk/internal/util/Preconditions", "checkIndex", "(IILjava/util/function/BiFunction;)I"⟩
abbrev z58 : Jvm.MethodName := ⟨"java/util/ArrayList", "elementData", "(I)Ljava/lang/Object;"⟩
abbrev z59 : Jvm.MethodName := ⟨"com/example/acidb/acidb/sql/LockMode", "isCompatibleWith", "(Lcom/example/acidb/acidb/sql/LockMode;)Z"⟩
abbrev z60 : Jvm.MethodName := ⟨"java/util/ArrayList", "grow", "()[Ljava/lang/Object;"⟩
abbrev z61 : Jvm.MethodName := ⟨"java/util/ArrayList", "grow", "(I)[Ljava/lang/Object;"⟩
abbrev z62 : Jvm.MethodName := ⟨"java/lang/Math", "max", "(II)I"⟩
abbrev z63 : Jvm.MethodName := ⟨"java/util/ImmutableCollections$List12", "<init>", "(Ljava/lang/Object;Ljava/lang/Object;)V"⟩
abbrev z64 : Jvm.MethodName := ⟨"com/example/acidb/acidb/engine/LockedRow", "cancel", "(Lcom/example/acidb/acidb/engine/LockedRow$Request;)Z"⟩
abbrev z65 : Jvm.MethodName := ⟨"java/util/ArrayList", "contains", "(Ljava/lang/Object;)Z"⟩
abbrev z66 : Jvm.MethodName := ⟨"java/util/ArrayList", "indexOf", "(Ljava/lang/Object;)I"⟩
abbrev z67 : Jvm.MethodName := ⟨"java/util/ArrayList", "indexOfRange", "(Ljava/lang/Object;II)I"⟩
def codes1 : List Jvm.Cond := [Jvm.Cond.code x code maxLocals ret, Jvm.Cond.code z0 jdk_35_method_24_code (3 : Nat) (Option.some (FieldType.object "java/lang/Long")), Jvm.Cond.code z1 prog_36_method_1_code (2 : Nat) (Option.none : Option Jvm.ClassFile.FieldType), Jvm.Cond.code z2 object_method_1_code (1 : Nat) (Option.none : Option Jvm.ClassFile.FieldType), Jvm.Cond.code z3 prog_61_method_1_code (2 : Nat) (Option.none : Option Jvm.ClassFile.FieldType), Jvm.Cond.code z4 jdk_94_method_16_code (1 : Nat) (Option.none : Option Jvm.ClassFile.FieldType), Jvm.Cond.code z5 jdk_69_method_7_code (1 : Nat) (Option.none : Option Jvm.ClassFile.FieldType), Jvm.Cond.code z6 jdk_71_method_1_code (1 : Nat) (Option.none : Option Jvm.ClassFile.FieldType), Jvm.Cond.code z7 prog_36_method_6_code (1 : Nat) (Option.some FieldType.boolean), Jvm.Cond.code z8 prog_36_method_3_code (4 : Nat) (Option.some (FieldType.object "com/example/acidb/acidb/engine/LockedRow$Request")), Jvm.Cond.code z9 prog_36_method_13_code (2 : Nat) (Option.some FieldType.boolean), Jvm.Cond.code z10 prog_36_method_14_code (5 : Nat) (Option.some (FieldType.object "com/example/acidb/acidb/engine/LockedRow$Request")), Jvm.Cond.code z11 prog_37_method_1_code (5 : Nat) (Option.none : Option Jvm.ClassFile.FieldType), Jvm.Cond.code z12 prog_36_method_15_code (2 : Nat) (Option.some FieldType.boolean), Jvm.Cond.code z13 prog_36_method_16_code (6 : Nat) (Option.some (FieldType.object "java/util/List")), Jvm.Cond.code z14 jdk_38_method_2_code (1 : Nat) (Option.none : Option Jvm.ClassFile.FieldType), Jvm.Cond.code z15 jdk_39_method_1_code (1 : Nat) (Option.none : Option Jvm.ClassFile.FieldType), Jvm.Cond.code z16 jdk_22_method_1_code (1 : Nat) (Option.none : Option Jvm.ClassFile.FieldType), Jvm.Cond.code z17 jdk_38_method_9_code (1 : Nat) (Option.some FieldType.boolean), Jvm.Cond.code z18 prog_36_method_17_code (3 : Nat) (Option.none : Option Jvm.ClassFile.FieldType), Jvm.Cond.code z19 prog_36_method_20_code (1 : Nat) (Option.some (FieldType.object "java/util/List")), Jvm.Cond.code z20 jdk_38_method_1_code (2 : Nat) (Option.none : Option Jvm.ClassFile.FieldType), Jvm.Cond.code z21 jdk_38_method_25_code (2 : Nat) (Option.some FieldType.boolean), Jvm.Cond.code z22 jdk_38_method_24_code (4 : Nat) (Option.none : Option Jvm.ClassFile.FieldType), Jvm.Cond.code z23 prog_36_method_19_code (1 : Nat) (Option.none : Option Jvm.ClassFile.FieldType), Jvm.Cond.code z24 prog_36_method_5_code (3 : Nat) (Option.some FieldType.boolean), Jvm.Cond.code z25 jdk_38_method_55_code (1 : Nat) (Option.some (FieldType.object "java/util/Iterator")), Jvm.Cond.code z26 jdk_49_method_1_code (2 : Nat) (Option.none : Option Jvm.ClassFile.FieldType), Jvm.Cond.code z27 jdk_49_method_2_code (1 : Nat) (Option.some FieldType.boolean), Jvm.Cond.code z28 jdk_49_method_3_code (3 : Nat) (Option.some (FieldType.object "java/lang/Object")), Jvm.Cond.code z29 jdk_49_method_6_code (1 : Nat) (Option.none : Option Jvm.ClassFile.FieldType), Jvm.Cond.code z30 prog_36_method_18_code (4 : Nat) (Option.some FieldType.boolean), Jvm.Cond.code z31 jdk_40_method_48_code (1 : Nat) (Option.some (FieldType.object "java/util/List")), Jvm.Cond.code z32 jdk_56_method_3_code (2 : Nat) (Option.some (FieldType.object "java/util/List")), Jvm.Cond.code z33 jdk_38_method_16_code (1 : Nat) (Option.some (FieldType.array (FieldType.object "java/lang/Object"))), Jvm.Cond.code z34 jdk_65_method_119_code (2 : Nat) (Option.some (FieldType.array (FieldType.object "java/lang/Object"))), Jvm.Cond.code z35 jdk_65_method_120_code (4 : Nat) (Option.some (FieldType.array (FieldType.object "java/lang/Object"))), Jvm.Cond.code z36 jdk_29_method_69_code (2 : Nat) (Option.some FieldType.int), Jvm.Cond.code z37 jdk_40_method_47_code (2 : Nat) (Option.some (FieldType.object "java/util/List")), Jvm.Cond.code z38 jdk_44_method_1_code (2 : Nat) (Option.none : Option Jvm.ClassFile.FieldType), Jvm.Cond.code z39 jdk_46_method_1_code (1 : Nat) (Option.none : Option Jvm.ClassFile.FieldType), Jvm.Cond.code z40 jdk_47_method_1_code (1 : Nat) (Option.none : Option Jvm.ClassFile.FieldType), Jvm.Cond.code z41 jdk_31_method_10_code (1 : Nat) (Option.some (FieldType.object "java/lang/Object")), Jvm.Cond.code z42 jdk_46_method_10_code (1 : Nat) (Option.some (FieldType.object "java/util/Iterator")), Jvm.Cond.code z43 jdk_44_method_3_code (1 : Nat) (Option.some FieldType.int), Jvm.Cond.code z44 jdk_53_method_1_code (3 : Nat) (Option.none : Option Jvm.ClassFile.FieldType), Jvm.Cond.code z45 jdk_53_method_3_code (1 : Nat) (Option.some FieldType.boolean), Jvm.Cond.code z46 jdk_44_method_5_code (2 : Nat) (Option.some (FieldType.object "java/lang/Object")), Jvm.Cond.code z47 jdk_38_method_38_code (5 : Nat) (Option.some FieldType.boolean), Jvm.Cond.code z48 object_method_4_code (2 : Nat) (Option.some FieldType.boolean), Jvm.Cond.code z49 jdk_38_method_39_code (4 : Nat) (Option.none : Option Jvm.ClassFile.FieldType), Jvm.Cond.code z50 jdk_40_method_36_code (0 : Nat) (Option.some (FieldType.object "java/util/List")), Jvm.Cond.code z51 jdk_45_method_3_code (1 : Nat) (Option.some FieldType.int), Jvm.Cond.code z52 jdk_35_method_26_code (3 : Nat) (Option.none : Option Jvm.ClassFile.FieldType), Jvm.Cond.code z53 jdk_18_method_1_code (1 : Nat) (Option.none : Option Jvm.ClassFile.FieldType), Jvm.Cond.code z54 jdk_38_method_8_code (1 : Nat) (Option.some FieldType.int), Jvm.Cond.code z55 jdk_38_method_20_code (2 : Nat) (Option.some (FieldType.object "java/lang/Object")), Jvm.Cond.code z56 jdk_31_method_17_code (2 : Nat) (Option.some FieldType.int), Jvm.Cond.code z57 jdk_41_method_11_code (3 : Nat) (Option.some FieldType.int), Jvm.Cond.code z58 jdk_38_method_18_code (2 : Nat) (Option.some (FieldType.object "java/lang/Object")), Jvm.Cond.code z59 prog_86_method_4_code (2 : Nat) (Option.some FieldType.boolean), Jvm.Cond.code z60 jdk_38_method_7_code (1 : Nat) (Option.some (FieldType.array (FieldType.object "java/lang/Object"))), Jvm.Cond.code z61 jdk_38_method_6_code (4 : Nat) (Option.some (FieldType.array (FieldType.object "java/lang/Object"))), Jvm.Cond.code z62 jdk_29_method_65_code (2 : Nat) (Option.some FieldType.int), Jvm.Cond.code z63 jdk_44_method_2_code (3 : Nat) (Option.none : Option Jvm.ClassFile.FieldType), Jvm.Cond.code z64 prog_36_method_4_code (2 : Nat) (Option.some FieldType.boolean), Jvm.Cond.code z65 jdk_38_method_10_code (2 : Nat) (Option.some FieldType.boolean), Jvm.Cond.code z66 jdk_38_method_11_code (2 : Nat) (Option.some FieldType.int), Jvm.Cond.code z67 jdk_38_method_12_code (6 : Nat) (Option.some FieldType.int)]
set_option maxRecDepth 65536 in
theorem codes_eq : words1.filter isCode = codes1 := rfl
theorem w_codes : ∀ c ∈ words1.filter isCode, c.before args0 about1 = true := by
  rw [codes_eq]
  intro c hc
  simp only [codes1, List.mem_cons, List.not_mem_nil, or_false] at hc
  rcases hc with rfl | rfl | rfl | rfl | rfl | rfl | rfl | rfl | rfl | rfl | rfl | rfl | rfl | rfl | rfl | rfl | rfl | rfl | rfl | rfl | rfl | rfl | rfl | rfl | rfl | rfl | rfl | rfl | rfl | rfl | rfl | rfl | rfl | rfl | rfl | rfl | rfl | rfl | rfl | rfl | rfl | rfl | rfl | rfl | rfl | rfl | rfl | rfl | rfl | rfl | rfl | rfl | rfl | rfl | rfl | rfl | rfl | rfl | rfl | rfl | rfl | rfl | rfl | rfl | rfl | rfl | rfl | rfl | rfl
  · exact w_c0
  · exact w_c1
  · exact w_c2
  · exact w_c3
  · exact w_c4
  · exact w_c5
  · exact w_c6
  · exact w_c7
  · exact w_c8
  · exact w_c9
  · exact w_c10
  · exact w_c11
  · exact w_c12
  · exact w_c13
  · exact w_c14
  · exact w_c15
  · exact w_c16
  · exact w_c17
  · exact w_c18
  · exact w_c19
  · exact w_c20
  · exact w_c21
  · exact w_c22
  · exact w_c23
  · exact w_c24
  · exact w_c25
  · exact w_c26
  · exact w_c27
  · exact w_c28
  · exact w_c29
  · exact w_c30
  · exact w_c31
  · exact w_c32
  · exact w_c33
  · exact w_c34
  · exact w_c35
  · exact w_c36
  · exact w_c37
  · exact w_c38
  · exact w_c39
  · exact w_c40
  · exact w_c41
  · exact w_c42
  · exact w_c43
  · exact w_c44
  · exact w_c45
  · exact w_c46
  · exact w_c47
  · exact w_c48
  · exact w_c49
  · exact w_c50
  · exact w_c51
  · exact w_c52
  · exact w_c53
  · exact w_c54
  · exact w_c55
  · exact w_c56
  · exact w_c57
  · exact w_c58
  · exact w_c59
  · exact w_c60
  · exact w_c61
  · exact w_c62
  · exact w_c63
  · exact w_c64
  · exact w_c65
  · exact w_c66
  · exact w_c67
  · exact w_c68
set_option maxRecDepth 65536 in
theorem w_t1 : (words1.take 24).all (fun c => isCode c || c.before args0 about1) = true := by decide +kernel
set_option maxRecDepth 65536 in
theorem w_t2 : ((words1.drop 24).take 24).all (fun c => isCode c || c.before args0 about1) = true := by decide +kernel
set_option maxRecDepth 65536 in
theorem w_t3 : (((words1.drop 24).drop 24).take 24).all (fun c => isCode c || c.before args0 about1) = true := by decide +kernel
set_option maxRecDepth 65536 in
theorem w_t4 : ((((words1.drop 24).drop 24).drop 24).take 24).all (fun c => isCode c || c.before args0 about1) = true := by decide +kernel
set_option maxRecDepth 65536 in
theorem w_t5 : (((((words1.drop 24).drop 24).drop 24).drop 24).take 24).all (fun c => isCode c || c.before args0 about1) = true := by decide +kernel
set_option maxRecDepth 65536 in
theorem w_t6 : ((((((words1.drop 24).drop 24).drop 24).drop 24).drop 24).take 24).all (fun c => isCode c || c.before args0 about1) = true := by decide +kernel
set_option maxRecDepth 65536 in
theorem w_t7 : (((((((words1.drop 24).drop 24).drop 24).drop 24).drop 24).drop 24).take 24).all (fun c => isCode c || c.before args0 about1) = true := by decide +kernel
set_option maxRecDepth 65536 in
theorem w_t8 : ((((((((words1.drop 24).drop 24).drop 24).drop 24).drop 24).drop 24).drop 24).take 24).all (fun c => isCode c || c.before args0 about1) = true := by decide +kernel
set_option maxRecDepth 65536 in
theorem w_t9 : (((((((((words1.drop 24).drop 24).drop 24).drop 24).drop 24).drop 24).drop 24).drop 24).take 24).all (fun c => isCode c || c.before args0 about1) = true := by decide +kernel
set_option maxRecDepth 65536 in
theorem w_t10 : ((((((((((words1.drop 24).drop 24).drop 24).drop 24).drop 24).drop 24).drop 24).drop 24).drop 24).take 24).all (fun c => isCode c || c.before args0 about1) = true := by decide +kernel
set_option maxRecDepth 65536 in
theorem w_t11 : (((((((((((words1.drop 24).drop 24).drop 24).drop 24).drop 24).drop 24).drop 24).drop 24).drop 24).drop 24).take 24).all (fun c => isCode c || c.before args0 about1) = true := by decide +kernel
set_option maxRecDepth 65536 in
theorem w_t12 : ((((((((((((words1.drop 24).drop 24).drop 24).drop 24).drop 24).drop 24).drop 24).drop 24).drop 24).drop 24).drop 24).take 24).all (fun c => isCode c || c.before args0 about1) = true := by decide +kernel
set_option maxRecDepth 65536 in
theorem w_t13 : (((((((((((((words1.drop 24).drop 24).drop 24).drop 24).drop 24).drop 24).drop 24).drop 24).drop 24).drop 24).drop 24).drop 24).take 24).all (fun c => isCode c || c.before args0 about1) = true := by decide +kernel
set_option maxRecDepth 65536 in
theorem w_t14 : ((((((((((((((words1.drop 24).drop 24).drop 24).drop 24).drop 24).drop 24).drop 24).drop 24).drop 24).drop 24).drop 24).drop 24).drop 24).take 24).all (fun c => isCode c || c.before args0 about1) = true := by decide +kernel
set_option maxRecDepth 65536 in
theorem w_t15 : (((((((((((((((words1.drop 24).drop 24).drop 24).drop 24).drop 24).drop 24).drop 24).drop 24).drop 24).drop 24).drop 24).drop 24).drop 24).drop 24).take 24).all (fun c => isCode c || c.before args0 about1) = true := by decide +kernel
set_option maxRecDepth 65536 in
theorem w_t16 : ((((((((((((((((words1.drop 24).drop 24).drop 24).drop 24).drop 24).drop 24).drop 24).drop 24).drop 24).drop 24).drop 24).drop 24).drop 24).drop 24).drop 24).take 24).all (fun c => isCode c || c.before args0 about1) = true := by decide +kernel
set_option maxRecDepth 65536 in
theorem w_t17 : (((((((((((((((((words1.drop 24).drop 24).drop 24).drop 24).drop 24).drop 24).drop 24).drop 24).drop 24).drop 24).drop 24).drop 24).drop 24).drop 24).drop 24).drop 24).take 24).all (fun c => isCode c || c.before args0 about1) = true := by decide +kernel
set_option maxRecDepth 65536 in
theorem w_t18 : ((((((((((((((((((words1.drop 24).drop 24).drop 24).drop 24).drop 24).drop 24).drop 24).drop 24).drop 24).drop 24).drop 24).drop 24).drop 24).drop 24).drop 24).drop 24).drop 24).take 24).all (fun c => isCode c || c.before args0 about1) = true := by decide +kernel
set_option maxRecDepth 65536 in
theorem w_t19 : (((((((((((((((((((words1.drop 24).drop 24).drop 24).drop 24).drop 24).drop 24).drop 24).drop 24).drop 24).drop 24).drop 24).drop 24).drop 24).drop 24).drop 24).drop 24).drop 24).drop 24).take 24).all (fun c => isCode c || c.before args0 about1) = true := by decide +kernel
set_option maxRecDepth 65536 in
theorem w_t20 : ((((((((((((((((((((words1.drop 24).drop 24).drop 24).drop 24).drop 24).drop 24).drop 24).drop 24).drop 24).drop 24).drop 24).drop 24).drop 24).drop 24).drop 24).drop 24).drop 24).drop 24).drop 24).take 24).all (fun c => isCode c || c.before args0 about1) = true := by decide +kernel
set_option maxRecDepth 65536 in
theorem w_t21 : ((((((((((((((((((((words1.drop 24).drop 24).drop 24).drop 24).drop 24).drop 24).drop 24).drop 24).drop 24).drop 24).drop 24).drop 24).drop 24).drop 24).drop 24).drop 24).drop 24).drop 24).drop 24).drop 24).all (fun c => isCode c || c.before args0 about1) = true := by decide +kernel
theorem w_tables : (allAtoms (Jvm.Cond.code x code maxLocals ret :: tables_1)).before args0 about1 = true := by
  rw [allAtoms_all]
  show words1.all (fun c => c.before args0 about1) = true
  refine all_split ?_ w_codes
  rw [← List.take_append_drop 24 words1, List.all_append, w_t1, ← List.take_append_drop 24 (words1.drop 24), List.all_append, w_t2, ← List.take_append_drop 24 ((words1.drop 24).drop 24), List.all_append, w_t3, ← List.take_append_drop 24 (((words1.drop 24).drop 24).drop 24), List.all_append, w_t4, ← List.take_append_drop 24 ((((words1.drop 24).drop 24).drop 24).drop 24), List.all_append, w_t5, ← List.take_append_drop 24 (((((words1.drop 24).drop 24).drop 24).drop 24).drop 24), List.all_append, w_t6, ← List.take_append_drop 24 ((((((words1.drop 24).drop 24).drop 24).drop 24).drop 24).drop 24), List.all_append, w_t7, ← List.take_append_drop 24 (((((((words1.drop 24).drop 24).drop 24).drop 24).drop 24).drop 24).drop 24), List.all_append, w_t8, ← List.take_append_drop 24 ((((((((words1.drop 24).drop 24).drop 24).drop 24).drop 24).drop 24).drop 24).drop 24), List.all_append, w_t9, ← List.take_append_drop 24 (((((((((words1.drop 24).drop 24).drop 24).drop 24).drop 24).drop 24).drop 24).drop 24).drop 24), List.all_append, w_t10, ← List.take_append_drop 24 ((((((((((words1.drop 24).drop 24).drop 24).drop 24).drop 24).drop 24).drop 24).drop 24).drop 24).drop 24), List.all_append, w_t11, ← List.take_append_drop 24 (((((((((((words1.drop 24).drop 24).drop 24).drop 24).drop 24).drop 24).drop 24).drop 24).drop 24).drop 24).drop 24), List.all_append, w_t12, ← List.take_append_drop 24 ((((((((((((words1.drop 24).drop 24).drop 24).drop 24).drop 24).drop 24).drop 24).drop 24).drop 24).drop 24).drop 24).drop 24), List.all_append, w_t13, ← List.take_append_drop 24 (((((((((((((words1.drop 24).drop 24).drop 24).drop 24).drop 24).drop 24).drop 24).drop 24).drop 24).drop 24).drop 24).drop 24).drop 24), List.all_append, w_t14, ← List.take_append_drop 24 ((((((((((((((words1.drop 24).drop 24).drop 24).drop 24).drop 24).drop 24).drop 24).drop 24).drop 24).drop 24).drop 24).drop 24).drop 24).drop 24), List.all_append, w_t15, ← List.take_append_drop 24 (((((((((((((((words1.drop 24).drop 24).drop 24).drop 24).drop 24).drop 24).drop 24).drop 24).drop 24).drop 24).drop 24).drop 24).drop 24).drop 24).drop 24), List.all_append, w_t16, ← List.take_append_drop 24 ((((((((((((((((words1.drop 24).drop 24).drop 24).drop 24).drop 24).drop 24).drop 24).drop 24).drop 24).drop 24).drop 24).drop 24).drop 24).drop 24).drop 24).drop 24), List.all_append, w_t17, ← List.take_append_drop 24 (((((((((((((((((words1.drop 24).drop 24).drop 24).drop 24).drop 24).drop 24).drop 24).drop 24).drop 24).drop 24).drop 24).drop 24).drop 24).drop 24).drop 24).drop 24).drop 24), List.all_append, w_t18, ← List.take_append_drop 24 ((((((((((((((((((words1.drop 24).drop 24).drop 24).drop 24).drop 24).drop 24).drop 24).drop 24).drop 24).drop 24).drop 24).drop 24).drop 24).drop 24).drop 24).drop 24).drop 24).drop 24), List.all_append, w_t19, ← List.take_append_drop 24 (((((((((((((((((((words1.drop 24).drop 24).drop 24).drop 24).drop 24).drop 24).drop 24).drop 24).drop 24).drop 24).drop 24).drop 24).drop 24).drop 24).drop 24).drop 24).drop 24).drop 24).drop 24), List.all_append, w_t20, w_t21]
  rfl
set_option maxRecDepth 65536 in
theorem w_rest : rest_1_c.before args0 about1 = true := by decide +kernel
set_option maxRecDepth 65536 in
theorem w_case : (Jvm.Cond.and given_1 narrow_1).before args0 about1 = true := by decide +kernel
theorem w_applies : (headSpec (Jvm.Cond.code x code maxLocals ret :: tables_1) room_1).applies x e0.platform about1 = true :=
  (Spec.applies_iff w_frames).mpr ⟨w_running, w_runnable, w_alone, w_named, w_hears, w_ripe, w_room, w_tables⟩
set_option maxRecDepth 65536 in
theorem atStart : AtStart classFile x code maxLocals ret World_1 tables_1 room_1 Calls_1 rest_1 Pre_1 launch0 p0 e0 about1 theMethod args0 below0 :=
  ⟨lists_1, trivial, launch0.admits_env _ _ _, launch0.least_env, fairChoices_fair.cas, fairChoices_fair.clock, w_frames, w_args, w_heap, w_applies, ⟨⟨46, k46, 4, by decide +kernel, rfl, rfl, _, rfl, rfl⟩, trivial⟩, w_rest, w_case⟩
end start1
theorem witness_1 : WitnessClaimed_1 := ⟨start1.p0, start1.e0, start1.about1, start1.theMethod, start1.args0, start1.below0, start1.atStart⟩
end Jvm.Pilot.@@N@@
