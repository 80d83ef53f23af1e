import JvmDerived
import JvmDerived.Pilot.@@N@@Statement
import JvmDerived.Pilot.@@N@@Code
set_option linter.unusedVariables false
set_option linter.unusedSimpArgs false
namespace Jvm.RoadKit
open Sem ClassFile Op Lib Jvm.Stand Jvm.Free Jvm.LawKit
section New
variable {p : Program} {l : Launch} {e : Env} {R : Room} {s : State} {m : MethodId} {args : Array Value} {below : List Frame} {meth : Method} {c : Code} {T : State} {locs : List Loc} {cells slots : Nat}
theorem retI (X : Stand p l e R s m args below meth c T locs cells slots) (hx : p.tables.exec = Jvm.exec) {pc : Nat} {Ls : Array Slot} {z : Int32} {rest : List Value} (hret : meth.sig.returnType = some .int) (hd : decode c.code pc = .ok (.ireturn, 1)) {fs : List Frame}
    (hl : ∀ (f : JFrame) (acts : List Action), f.method = m → f.locked = none → f.entered = [] → (doReturn e (T.setTop f) acts (some (.int z))).1 = T.setFrames fs) : Steps p.tables e below (T.setTop (mkF m pc Ls (.int z :: rest))) (T.setFrames fs) :=
  retOut X hx hret rfl (Or.inl ⟨rfl, Or.inl rfl, z, rfl⟩) hd hl
end New
end Jvm.RoadKit
namespace Jvm.Pilot.@@N@@
open Jvm Jvm.ClassFile Sem Op Lib Jvm.Free Jvm.Stand Jvm.LawKit Jvm.RoadKit Bundle Jvm.Pilot.@@N@@.Jvm.D
section OwnKit
variable {p : Program} {l : Launch} {e : Env} {R : Room} {s s' : State} {m : MethodId} {args : Array Value} {below : List Frame} {meth : Method} {c : Code} {T T' : State} {locs : List Loc} {cells slots : Nat} {g g' : JFrame} {Z : State} {a0 : Array Value} {h : Heap} {Q : Option Value → Heap → List Loc → Prop} {k n : Nat} {E : State → Outcome → State → List Loc → Nat → Nat → Prop}
/-- the run goes on from here to its end, and the end is as Q and the frame E say -/
def Fin (E : State → Outcome → State → List Loc → Nat → Nat → Prop) (p : Program) (e : Env) (below : List Frame) (s : State) (Q : Option Value → Heap → List Loc → Prop) (k n : Nat) (T : State) (g : JFrame) : Prop :=
  ∃ (s₂ : State) (o : Outcome), Steps p.tables e below (T.setTop g) s₂ ∧ s₂.status = .running ∧ Ended s₂ below o ∧ ∃ v L, o = .returned v ∧ Q v s₂.heap L ∧ E s o s₂ L k n
theorem Fin.go (st : ∀ t, Steps p.tables e below (T'.setTop g') t → Steps p.tables e below (T.setTop g) t) (w : Fin E p e below s Q k n T' g') : Fin E p e below s Q k n T g := by
  obtain ⟨s₂, o, h1, r⟩ := w
  exact ⟨s₂, o, st _ h1, r⟩
theorem Fin.came (st : Steps p.tables e below (T.setTop g) (T'.setTop g')) (w : Fin E p e below s Q k n T' g') : Fin E p e below s Q k n T g := by
  obtain ⟨s₂, o, h1, r⟩ := w
  exact ⟨s₂, o, st.trans h1, r⟩
theorem Fin.leaveN (X : Stand p l e R s m args below meth c T locs cells slots) (eT : T.heap = h) (hlk : meth.locks = false) {v : Option Value} (hv : meth.sig.returnType = none → v = none) (hk : cells ≤ k) (hn : slots ≤ n) (hq : Q v h locs)
    (st : ∀ fs, (∀ (f : JFrame) (acts : List Action), f.method = m → f.locked = none → f.entered = [] → (doReturn e (T.setTop f) acts v).1 = T.setFrames fs) → Steps p.tables e below (T.setTop g) (T.setFrames fs)) : Fin FrameEnd p e below s Q k n T g := by
  subst eT
  obtain ⟨fs, hr, hrun, hended, hW, hsame⟩ := X.leave hv hlk
  exact ⟨_, _, st fs hr, hrun, hended, v, locs, rfl, hq, ⟨v, rfl⟩, hW, hsame.mono hk hn⟩
/-- a body's contract: called with these arguments at this heap, it comes back as Q says -/
abbrev ConW (E : State → Outcome → State → List Loc → Nat → Nat → Prop) (l : Launch) (Z : State) (ws : List Jvm.Cond) (y : MethodName) (bytes : ByteArray) (maxL : Nat) (ret : Option FieldType) (rm : Room) (as' : Array Value) (h : Heap) (Q : Option Value → Heap → List Loc → Prop) : Prop :=
  MetFree l y (head1 (Jvm.Cond.code y bytes maxL ret :: ws) rm) (fun a U => a = as' ∧ Z.Warmed39 U.vm ∧ U.heap = h) (fun _ _ _ _ _ => True) (fun _ U o U' => ∃ v L, o = .returned v ∧ Q v U'.heap L ∧ E U o U' L rm.cells rm.slots)
abbrev Con (E : State → Outcome → State → List Loc → Nat → Nat → Prop) (l : Launch) (Z : State) (y : MethodName) (bytes : ByteArray) (maxL : Nat) (ret : Option FieldType) (rm : Room) (as' : Array Value) (h : Heap) (Q : Option Value → Heap → List Loc → Prop) : Prop := ConW E l Z [] y bytes maxL ret rm as' h Q
theorem conOf {ws : List Jvm.Cond} {y : MethodName} {bytes : ByteArray} {maxL : Nat} {ret : Option FieldType} {rm : Room} {as' : Array Value} (hpn : plainFor y = true)
    (body : ∀ (p : Program) (e : Env) (s : State) (m : MethodId) (below : List Frame) (meth : Method) (c : Code) (s₁ : State), Stand p l e rm s m as' below meth c s₁ [] 0 0 → p.tables.exec = Jvm.exec → c.code = bytes → c.maxLocals = maxL → s.vm.findClass y.cls = some m.cls → meth.name = y.name →
      meth.sig.returnType = ret → meth.locks = false → Z.Warmed39 s.vm → s₁.heap = h → Fin E p e below s Q rm.cells rm.slots s₁ (entryFrame m as' maxL)) : ConW E l Z ws y bytes maxL ret rm as' h Q := by
  refine MetFree.of_bodySF hpn hisR ?_
  intro p e s m args below meth c s₁ Bd hml hP hK
  obtain ⟨rfl, hZ, hh⟩ := hP
  exact body p e s m below meth c s₁ (Stand.of_body Bd) Bd.exec Bd.bytes hml (findClass_of_methodNamed Bd.named) (name_of_methodNamed Bd.named Bd.method).1 Bd.returns (BodyLoose.notSynchronized Bd) hZ (by rw [← hh, Bd.state]; rfl)
/-- nothing moved; r is returned -/
abbrev Pure (h0 : Heap) (r : Option Value) : Option Value → Heap → List Loc → Prop := fun v h L => v = r ∧ h = h0 ∧ L = []
theorem nar_refv {v : Value} {t : FieldType} (h : v.isRef = true) (ht : t.isReference = true) : narrow t v = v := by
  rcases ref_cases h with rfl | ⟨a, rfl⟩ <;> cases t <;> first | rfl | (simp [FieldType.isReference] at ht)
theorem fits_refv {v : Value} {t : FieldType} (h : v.isRef = true) (ht : t.isReference = true) : fits t v = true := by
  rcases ref_cases h with rfl | ⟨a, rfl⟩ <;> cases t <;> first | rfl | (simp [FieldType.isReference] at ht)
theorem nar_b8 (x : Int32) : nar .byte ((Int32.toInt8 x).toInt32) = (Int32.toInt8 x).toInt32 := by simp [nar]
theorem nar_c16 (x : Int32) : nar .char ((Int32.toUInt32 x).toUInt16.toUInt32.toInt32) = (Int32.toUInt32 x).toUInt16.toUInt32.toInt32 := by simp only [nar, UInt32.toUInt32_toInt32, UInt16.toUInt16_toUInt32]
section Calls
variable {own : String} {index : Nat} {y z : MethodName} {bytes : ByteArray} {maxL : Nat} {ret : Option FieldType} {rm : Room} {W : Nat} {Qc : Option Value → Heap → List Loc → Prop} {argsL rest : List Value}
theorem callSt (X : Stand p l e R s m args below meth c T locs cells slots) (hx : p.tables.exec = Jvm.exec) (hZ : Z.Warmed39 s.vm) (hown : s.vm.findClass own = some m.cls)
    (w1 : (Jvm.Cond.methodLink own index y).before a0 Z = true) (w2 : (Jvm.Cond.static y).before a0 Z = true) (w3 : (Jvm.Cond.initialized y.cls).before a0 Z = true) (w4 : (Jvm.Cond.code y bytes maxL ret).before a0 Z = true) (hy : y.cls ≠ "java/lang/invoke/MethodHandle" ∧ y.cls ≠ "java/lang/invoke/VarHandle")
    (hC : Con FrameEnd l Z y bytes maxL ret rm argsL.toArray h Qc) (eT : T.heap = h) (hf : rm.frames + 1 ≤ R.frames) (hl : W + (maxL + 11) + rm.locals ≤ R.locals) (hc : cells + rm.cells ≤ R.cells) (hs : slots + rm.slots ≤ R.slots)
    (hg : g.method = m) (hsize : g.locals.size = c.maxLocals) (hlen : ∀ sig, parseMethodDescriptor y.desc = some sig → argsL.length = sig.parameters.length) (hstack : g.stack = argsL.reverse ++ rest) (hW : 2 * g.monitorRoom + (rest.map fun v => v.category).sum ≤ W) (hdg : decode c.code g.pc = .ok (.invokestatic index, 3)) :
    ∃ (v : Option Value) (T' : State) (L : List Loc), Stand p l e R s m args below meth c T' (locs ++ L) (cells + rm.cells) (slots + rm.slots) ∧ Qc v T'.heap L ∧ ∀ target, Steps p.tables e below (T'.setTop { g with pc := g.pc + 3, stack := v.toList ++ rest }) target → Steps p.tables e below (T.setTop g) target := by
  obtain ⟨v, _, ⟨T2, L2, k2, n2⟩, -, X2, ⟨Lc2, hQ2, l2, y2, z2⟩, st2⟩ := Jvm.LawKit.callS X hx hown (mvT hZ w1) (mvT hZ w2) (mvT hZ w3) (mvT hZ w4) hy (backOf (W := W) hC hZ w4 w3 hf hl) hg hsize hlen hstack hW hdg (fun _ _ => ⟨rfl, eT, hc, hs⟩)
  dsimp only [Pt.U, Pt.locs, Pt.cells, Pt.slots] at X2 l2 y2 z2 st2 hQ2
  subst l2 y2 z2
  exact ⟨v, T2, Lc2, X2, hQ2, st2⟩
theorem callCt (X : Stand p l e R s m args below meth c T locs cells slots) (hx : p.tables.exec = Jvm.exec) (hZ : Z.Warmed39 s.vm) (hy1 : y.name = "<init>") (hown : s.vm.findClass own = some m.cls)
    (w1 : (Jvm.Cond.methodLink own index y).before a0 Z = true) (w2 : (Jvm.Cond.instanceMethod y).before a0 Z = true) (w3 : (Jvm.Cond.initialized y.cls).before a0 Z = true) (w4 : (Jvm.Cond.code y bytes maxL none).before a0 Z = true) (hy : y.cls ≠ "java/lang/invoke/MethodHandle" ∧ y.cls ≠ "java/lang/invoke/VarHandle")
    {a : Addr} (hC : Con FrameEnd l Z y bytes maxL none rm (.ref a :: argsL).toArray h Qc) (eT : T.heap = h) (hf : rm.frames + 1 ≤ R.frames) (hl : W + (maxL + 11) + rm.locals ≤ R.locals) (hc : cells + rm.cells ≤ R.cells) (hs : slots + rm.slots ≤ R.slots)
    (hg : g.method = m) (hsize : g.locals.size = c.maxLocals) (hlen : ∀ sig, parseMethodDescriptor y.desc = some sig → argsL.length = sig.parameters.length) (hstack : g.stack = argsL.reverse ++ .ref a :: rest) (hW : 2 * g.monitorRoom + (rest.map fun v => v.category).sum ≤ W) (hdg : decode c.code g.pc = .ok (.invokespecial index, 3)) :
    ∃ (v : Option Value) (T' : State) (L : List Loc), Stand p l e R s m args below meth c T' (locs ++ L) (cells + rm.cells) (slots + rm.slots) ∧ Qc v T'.heap L ∧ ∀ target, Steps p.tables e below (T'.setTop { g with pc := g.pc + 3, stack := v.toList ++ rest }) target → Steps p.tables e below (T.setTop g) target := by
  obtain ⟨v, _, ⟨T2, L2, k2, n2⟩, -, X2, ⟨Lc2, hQ2, l2, y2, z2⟩, st2⟩ := X.specialBack hx hy1 hown (mvT hZ w1) (mvT hZ w2) (mvT hZ w4) hy (backOf (W := W) hC hZ w4 w3 hf hl) hg hsize (Steps.refl _) hlen hstack hW hdg (fun _ _ => ⟨rfl, eT, hc, hs⟩)
  dsimp only [Pt.U, Pt.locs, Pt.cells, Pt.slots] at X2 l2 y2 z2 st2 hQ2
  subst l2 y2 z2
  exact ⟨v, T2, Lc2, X2, hQ2, fun _ k => st2.trans k⟩
theorem callVt {C : String} (X : Stand p l e R s m args below meth c T locs cells slots) (hx : p.tables.exec = Jvm.exec) (hZ : Z.Warmed39 s.vm) (hown : s.vm.findClass own = some m.cls)
    (w1 : (Jvm.Cond.methodLink own index y).before a0 Z = true) (w2 : (Jvm.Cond.declares y).before a0 Z = true) (w3 : (Jvm.Cond.selects C y y).before a0 Z = true) (w4 : (Jvm.Cond.instanceMethod y).before a0 Z = true) (w5 : (Jvm.Cond.initialized y.cls).before a0 Z = true) (w6 : (Jvm.Cond.code y bytes maxL ret).before a0 Z = true)
    (hy : y.cls ≠ "java/lang/invoke/MethodHandle" ∧ y.cls ≠ "java/lang/invoke/VarHandle")
    {a : Addr} (hC : Con FrameEnd l Z y bytes maxL ret rm (.ref a :: argsL).toArray h Qc) (eT : T.heap = h) (EA : Exa Z h a C) (hf : rm.frames + 1 ≤ R.frames) (hl : W + (maxL + 11) + rm.locals ≤ R.locals) (hc : cells + rm.cells ≤ R.cells) (hs : slots + rm.slots ≤ R.slots)
    (hg : g.method = m) (hsize : g.locals.size = c.maxLocals) (hlen : ∀ sig, parseMethodDescriptor y.desc = some sig → argsL.length = sig.parameters.length) (hstack : g.stack = argsL.reverse ++ .ref a :: rest) (hW : 2 * g.monitorRoom + (rest.map fun v => v.category).sum ≤ W) (hdg : decode c.code g.pc = .ok (.invokevirtual index, 3)) :
    ∃ (v : Option Value) (T' : State) (L : List Loc), Stand p l e R s m args below meth c T' (locs ++ L) (cells + rm.cells) (slots + rm.slots) ∧ Qc v T'.heap L ∧ ∀ target, Steps p.tables e below (T'.setTop { g with pc := g.pc + 3, stack := v.toList ++ rest }) target → Steps p.tables e below (T.setTop g) target := by
  obtain ⟨cq, kq, qa, qb, qc⟩ := isOf hZ eT EA
  obtain ⟨v, _, ⟨T2, L2, k2, n2⟩, -, X2, ⟨Lc2, hQ2, l2, y2, z2⟩, st2⟩ := X.virtualBack hx hown (mvT hZ w1) (mvT hZ w2) (notFace_of_selects (args := #[]) (mvT hZ w3)) (mvT hZ w3) (mvT hZ w4) hy (backOf (W := W) hC hZ w6 w5 hf hl) qa qc hg hsize (Steps.refl _) hlen hstack hW hdg (fun _ _ => ⟨rfl, eT, hc, hs⟩)
  dsimp only [Pt.U, Pt.locs, Pt.cells, Pt.slots] at X2 l2 y2 z2 st2 hQ2
  subst l2 y2 z2
  exact ⟨v, T2, Lc2, X2, hQ2, fun _ k => st2.trans k⟩
theorem callVUt {C owner : String} (X : Stand p l e R s m args below meth c T locs cells slots) (hx : p.tables.exec = Jvm.exec) (hZ : Z.Warmed39 s.vm) (hown : s.vm.findClass own = some m.cls)
    (w1 : (Jvm.Cond.methodLink own index y).before a0 Z = true) (w1' : (Jvm.Cond.sameMethod y.cls owner y.name y.desc).before a0 Z = true) (w2 : (Jvm.Cond.declares ⟨owner, y.name, y.desc⟩).before a0 Z = true) (w3 : (Jvm.Cond.selects C y z).before a0 Z = true) (w4 : (Jvm.Cond.instanceMethod z).before a0 Z = true) (w5 : (Jvm.Cond.initialized z.cls).before a0 Z = true) (w6 : (Jvm.Cond.code z bytes maxL ret).before a0 Z = true)
    (hy : owner ≠ "java/lang/invoke/MethodHandle" ∧ owner ≠ "java/lang/invoke/VarHandle")
    {a : Addr} (hC : Con FrameEnd l Z z bytes maxL ret rm (.ref a :: argsL).toArray h Qc) (eT : T.heap = h) (EA : Exa Z h a C) (hf : rm.frames + 1 ≤ R.frames) (hl : W + (maxL + 11) + rm.locals ≤ R.locals) (hc : cells + rm.cells ≤ R.cells) (hs : slots + rm.slots ≤ R.slots)
    (hg : g.method = m) (hsize : g.locals.size = c.maxLocals) (hlen : ∀ sig, parseMethodDescriptor y.desc = some sig → argsL.length = sig.parameters.length) (hstack : g.stack = argsL.reverse ++ .ref a :: rest) (hW : 2 * g.monitorRoom + (rest.map fun v => v.category).sum ≤ W) (hdg : decode c.code g.pc = .ok (.invokevirtual index, 3)) :
    ∃ (v : Option Value) (T' : State) (L : List Loc), Stand p l e R s m args below meth c T' (locs ++ L) (cells + rm.cells) (slots + rm.slots) ∧ Qc v T'.heap L ∧ ∀ target, Steps p.tables e below (T'.setTop { g with pc := g.pc + 3, stack := v.toList ++ rest }) target → Steps p.tables e below (T.setTop g) target := by
  obtain ⟨cq, kq, qa, qb, qc⟩ := isOf hZ eT EA
  obtain ⟨v, _, ⟨T2, L2, k2, n2⟩, -, X2, ⟨Lc2, hQ2, l2, y2, z2⟩, st2⟩ := X.virtualBackUp hx hown (mvT hZ w1) (mvT hZ w1') (mvT hZ w2) hy (mvT hZ w3) (mvT hZ w4) (backOf (W := W) hC hZ w6 w5 hf hl) qa qc hg hsize (Steps.refl _) hlen hstack hW hdg (fun _ _ => ⟨rfl, eT, hc, hs⟩)
  dsimp only [Pt.U, Pt.locs, Pt.cells, Pt.slots] at X2 l2 y2 z2 st2 hQ2
  subst l2 y2 z2
  exact ⟨v, T2, Lc2, X2, hQ2, fun _ k => st2.trans k⟩
end Calls
end OwnKit
theorem w_0 : (Jvm.Cond.constant "com/example/grantwell/grantwell/catalog/OperatorHoldsForPinLaw" (7 : Nat) (2147483647 : Int32)) ∈ tables_1 := List.mem_of_getElem? (i := 0) rfl
theorem w_1 : (Jvm.Cond.fieldLink "com/example/grantwell/grantwell/catalog/OperatorHoldsForPinLaw" (8 : Nat) "com/example/grantwell/grantwell/catalog/Condition$Operator" "EQUAL" "Lcom/example/grantwell/grantwell/catalog/Condition$Operator;") ∈ tables_1 := List.mem_of_getElem? (i := 1) rfl
theorem w_2 : (Jvm.Cond.initialized "com/example/grantwell/grantwell/catalog/Condition$Operator") ∈ tables_1 := List.mem_of_getElem? (i := 2) rfl
theorem w_3 : (Jvm.Cond.laysStatic "com/example/grantwell/grantwell/catalog/Condition$Operator" "EQUAL" "Lcom/example/grantwell/grantwell/catalog/Condition$Operator;") ∈ tables_1 := List.mem_of_getElem? (i := 3) rfl
theorem w_4 : (Jvm.Cond.methodLink "com/example/grantwell/grantwell/catalog/OperatorHoldsForPinLaw" (29 : Nat) ({ cls := "com/example/grantwell/grantwell/catalog/Condition$Operator", name := "holdsFor", desc := "(I)Z" } : Jvm.MethodName)) ∈ tables_1 := List.mem_of_getElem? (i := 4) rfl
theorem w_5 : (Jvm.Cond.declares ({ cls := "com/example/grantwell/grantwell/catalog/Condition$Operator", name := "holdsFor", desc := "(I)Z" } : Jvm.MethodName)) ∈ tables_1 := List.mem_of_getElem? (i := 5) rfl
theorem w_6 : (Jvm.Cond.instanceMethod ({ cls := "com/example/grantwell/grantwell/catalog/Condition$Operator", name := "holdsFor", desc := "(I)Z" } : Jvm.MethodName)) ∈ tables_1 := List.mem_of_getElem? (i := 6) rfl
theorem w_7 : (Jvm.Cond.selects "com/example/grantwell/grantwell/catalog/Condition$Operator" ({ cls := "com/example/grantwell/grantwell/catalog/Condition$Operator", name := "holdsFor", desc := "(I)Z" } : Jvm.MethodName) ({ cls := "com/example/grantwell/grantwell/catalog/Condition$Operator", name := "holdsFor", desc := "(I)Z" } : Jvm.MethodName)) ∈ tables_1 := List.mem_of_getElem? (i := 7) rfl
theorem w_8 : (Jvm.Cond.code ({ cls := "com/example/grantwell/grantwell/catalog/Condition$Operator", name := "holdsFor", desc := "(I)Z" } : Jvm.MethodName) prog_36_method_5_code (2 : Nat) (Option.some Jvm.ClassFile.FieldType.boolean)) ∈ tables_1 := List.mem_of_getElem? (i := 8) rfl
theorem w_9 : (Jvm.Cond.methodLink "com/example/grantwell/grantwell/catalog/Condition$Operator" (45 : Nat) ({ cls := "com/example/grantwell/grantwell/catalog/Condition$Operator", name := "ordinal", desc := "()I" } : Jvm.MethodName)) ∈ tables_1 := List.mem_of_getElem? (i := 9) rfl
theorem w_10 : (Jvm.Cond.sameMethod "com/example/grantwell/grantwell/catalog/Condition$Operator" "java/lang/Enum" "ordinal" "()I") ∈ tables_1 := List.mem_of_getElem? (i := 10) rfl
theorem w_11 : (Jvm.Cond.declares ({ cls := "java/lang/Enum", name := "ordinal", desc := "()I" } : Jvm.MethodName)) ∈ tables_1 := List.mem_of_getElem? (i := 11) rfl
theorem w_12 : (Jvm.Cond.instanceMethod ({ cls := "java/lang/Enum", name := "ordinal", desc := "()I" } : Jvm.MethodName)) ∈ tables_1 := List.mem_of_getElem? (i := 12) rfl
theorem w_13 : (Jvm.Cond.selects "com/example/grantwell/grantwell/catalog/Condition$Operator" ({ cls := "com/example/grantwell/grantwell/catalog/Condition$Operator", name := "ordinal", desc := "()I" } : Jvm.MethodName) ({ cls := "java/lang/Enum", name := "ordinal", desc := "()I" } : Jvm.MethodName)) ∈ tables_1 := List.mem_of_getElem? (i := 13) rfl
theorem w_14 : (Jvm.Cond.initialized "java/lang/Enum") ∈ tables_1 := List.mem_of_getElem? (i := 14) rfl
theorem w_15 : (Jvm.Cond.code ({ cls := "java/lang/Enum", name := "ordinal", desc := "()I" } : Jvm.MethodName) jdk_37_method_2_code (1 : Nat) (Option.some Jvm.ClassFile.FieldType.int)) ∈ tables_1 := List.mem_of_getElem? (i := 15) rfl
theorem w_16 : (Jvm.Cond.fieldLink "java/lang/Enum" (7 : Nat) "java/lang/Enum" "ordinal" "I") ∈ tables_1 := List.mem_of_getElem? (i := 16) rfl
theorem w_18 : (Jvm.Cond.fieldLink "com/example/grantwell/grantwell/catalog/OperatorHoldsForPinLaw" (17 : Nat) "com/example/grantwell/grantwell/catalog/Condition$Operator" "LESS" "Lcom/example/grantwell/grantwell/catalog/Condition$Operator;") ∈ tables_1 := List.mem_of_getElem? (i := 18) rfl
theorem w_19 : (Jvm.Cond.laysStatic "com/example/grantwell/grantwell/catalog/Condition$Operator" "LESS" "Lcom/example/grantwell/grantwell/catalog/Condition$Operator;") ∈ tables_1 := List.mem_of_getElem? (i := 19) rfl
theorem w_20 : (Jvm.Cond.fieldLink "com/example/grantwell/grantwell/catalog/OperatorHoldsForPinLaw" (23 : Nat) "com/example/grantwell/grantwell/catalog/Condition$Operator" "GREATER" "Lcom/example/grantwell/grantwell/catalog/Condition$Operator;") ∈ tables_1 := List.mem_of_getElem? (i := 20) rfl
theorem w_21 : (Jvm.Cond.laysStatic "com/example/grantwell/grantwell/catalog/Condition$Operator" "GREATER" "Lcom/example/grantwell/grantwell/catalog/Condition$Operator;") ∈ tables_1 := List.mem_of_getElem? (i := 21) rfl
theorem w_22 : (Jvm.Cond.fieldLink "com/example/grantwell/grantwell/catalog/OperatorHoldsForPinLaw" (14 : Nat) "com/example/grantwell/grantwell/catalog/Condition$Operator" "NOT_EQUAL" "Lcom/example/grantwell/grantwell/catalog/Condition$Operator;") ∈ tables_1 := List.mem_of_getElem? (i := 22) rfl
theorem w_23 : (Jvm.Cond.laysStatic "com/example/grantwell/grantwell/catalog/Condition$Operator" "NOT_EQUAL" "Lcom/example/grantwell/grantwell/catalog/Condition$Operator;") ∈ tables_1 := List.mem_of_getElem? (i := 23) rfl
theorem w_24 : (Jvm.Cond.fieldLink "com/example/grantwell/grantwell/catalog/OperatorHoldsForPinLaw" (26 : Nat) "com/example/grantwell/grantwell/catalog/Condition$Operator" "GREATER_OR_EQUAL" "Lcom/example/grantwell/grantwell/catalog/Condition$Operator;") ∈ tables_1 := List.mem_of_getElem? (i := 24) rfl
theorem w_25 : (Jvm.Cond.laysStatic "com/example/grantwell/grantwell/catalog/Condition$Operator" "GREATER_OR_EQUAL" "Lcom/example/grantwell/grantwell/catalog/Condition$Operator;") ∈ tables_1 := List.mem_of_getElem? (i := 25) rfl
theorem w_26 : (Jvm.Cond.fieldLink "com/example/grantwell/grantwell/catalog/OperatorHoldsForPinLaw" (20 : Nat) "com/example/grantwell/grantwell/catalog/Condition$Operator" "LESS_OR_EQUAL" "Lcom/example/grantwell/grantwell/catalog/Condition$Operator;") ∈ tables_1 := List.mem_of_getElem? (i := 26) rfl
theorem w_27 : (Jvm.Cond.laysStatic "com/example/grantwell/grantwell/catalog/Condition$Operator" "LESS_OR_EQUAL" "Lcom/example/grantwell/grantwell/catalog/Condition$Operator;") ∈ tables_1 := List.mem_of_getElem? (i := 27) rfl
theorem pn_java_lang_Enum : plainName "java/lang/Enum" = true := by first | (simp [plainName, overriddenIn]; done) | decide +kernel
theorem d2_0 : decode jdk_37_method_2_code 0 = .ok (.aload_n 0, 1) := by decide +kernel
theorem d2_1 : decode jdk_37_method_2_code 1 = .ok (.getfield 7, 3) := by decide +kernel
theorem d2_4 : decode jdk_37_method_2_code 4 = .ok (.ireturn, 1) := by decide +kernel
theorem pn_com_example_grantwell_grantwell_catalog_Condition_Operator : plainName "com/example/grantwell/grantwell/catalog/Condition$Operator" = true := by first | (simp [plainName, overriddenIn]; done) | decide +kernel
theorem d1_0 : decode prog_36_method_5_code 0 = .ok (.aload_n 0, 1) := by decide +kernel
theorem d1_1 : decode prog_36_method_5_code 1 = .ok (.invokevirtual 45, 3) := by decide +kernel
theorem pd_ocI : parseMethodDescriptor "()I" = some ⟨[], some .int⟩ := by decide +kernel
theorem d1_4 : decode prog_36_method_5_code 4 = .ok (.tableswitch 40 0 5 #[50, 62, 74, 86, 98, 110], 40) := by decide +kernel
theorem d1_54 : decode prog_36_method_5_code 54 = .ok (.iload_n 1, 1) := by decide +kernel
theorem d1_55 : decode prog_36_method_5_code 55 = .ok (.ifCond .ne 7, 3) := by decide +kernel
theorem d1_58 : decode prog_36_method_5_code 58 = .ok (.iconst 1, 1) := by decide +kernel
theorem d1_59 : decode prog_36_method_5_code 59 = .ok (.goto 64, 3) := by decide +kernel
theorem d1_123 : decode prog_36_method_5_code 123 = .ok (.ireturn, 1) := by decide +kernel
theorem d1_62 : decode prog_36_method_5_code 62 = .ok (.iconst 0, 1) := by decide +kernel
theorem d1_63 : decode prog_36_method_5_code 63 = .ok (.goto 60, 3) := by decide +kernel
theorem d1_66 : decode prog_36_method_5_code 66 = .ok (.iload_n 1, 1) := by decide +kernel
theorem d1_67 : decode prog_36_method_5_code 67 = .ok (.ifCond .eq 7, 3) := by decide +kernel
theorem d1_74 : decode prog_36_method_5_code 74 = .ok (.iconst 0, 1) := by decide +kernel
theorem d1_75 : decode prog_36_method_5_code 75 = .ok (.goto 48, 3) := by decide +kernel
theorem d1_70 : decode prog_36_method_5_code 70 = .ok (.iconst 1, 1) := by decide +kernel
theorem d1_71 : decode prog_36_method_5_code 71 = .ok (.goto 52, 3) := by decide +kernel
theorem d1_78 : decode prog_36_method_5_code 78 = .ok (.iload_n 1, 1) := by decide +kernel
theorem d1_79 : decode prog_36_method_5_code 79 = .ok (.ifCond .ge 7, 3) := by decide +kernel
theorem d1_82 : decode prog_36_method_5_code 82 = .ok (.iconst 1, 1) := by decide +kernel
theorem d1_83 : decode prog_36_method_5_code 83 = .ok (.goto 40, 3) := by decide +kernel
theorem d1_86 : decode prog_36_method_5_code 86 = .ok (.iconst 0, 1) := by decide +kernel
theorem d1_87 : decode prog_36_method_5_code 87 = .ok (.goto 36, 3) := by decide +kernel
theorem d1_90 : decode prog_36_method_5_code 90 = .ok (.iload_n 1, 1) := by decide +kernel
theorem d1_91 : decode prog_36_method_5_code 91 = .ok (.ifCond .gt 7, 3) := by decide +kernel
theorem d1_98 : decode prog_36_method_5_code 98 = .ok (.iconst 0, 1) := by decide +kernel
theorem d1_99 : decode prog_36_method_5_code 99 = .ok (.goto 24, 3) := by decide +kernel
theorem d1_94 : decode prog_36_method_5_code 94 = .ok (.iconst 1, 1) := by decide +kernel
theorem d1_95 : decode prog_36_method_5_code 95 = .ok (.goto 28, 3) := by decide +kernel
theorem d1_102 : decode prog_36_method_5_code 102 = .ok (.iload_n 1, 1) := by decide +kernel
theorem d1_103 : decode prog_36_method_5_code 103 = .ok (.ifCond .le 7, 3) := by decide +kernel
theorem d1_106 : decode prog_36_method_5_code 106 = .ok (.iconst 1, 1) := by decide +kernel
theorem d1_107 : decode prog_36_method_5_code 107 = .ok (.goto 16, 3) := by decide +kernel
theorem d1_110 : decode prog_36_method_5_code 110 = .ok (.iconst 0, 1) := by decide +kernel
theorem d1_111 : decode prog_36_method_5_code 111 = .ok (.goto 12, 3) := by decide +kernel
theorem d1_114 : decode prog_36_method_5_code 114 = .ok (.iload_n 1, 1) := by decide +kernel
theorem d1_115 : decode prog_36_method_5_code 115 = .ok (.ifCond .lt 7, 3) := by decide +kernel
theorem d1_122 : decode prog_36_method_5_code 122 = .ok (.iconst 0, 1) := by decide +kernel
theorem d1_118 : decode prog_36_method_5_code 118 = .ok (.iconst 1, 1) := by decide +kernel
theorem d1_119 : decode prog_36_method_5_code 119 = .ok (.goto 4, 3) := by decide +kernel
theorem pn_com_example_grantwell_grantwell_catalog_OperatorHoldsForPinLaw : plainName "com/example/grantwell/grantwell/catalog/OperatorHoldsForPinLaw" = true := by first | (simp [plainName, overriddenIn]; done) | decide +kernel
theorem pd_oIcZ : parseMethodDescriptor "(I)Z" = some ⟨[.int], some .boolean⟩ := by decide +kernel
theorem fldOf {s : State} {args : Array Value} {t : Term} {a : Addr} {C n d : String} {k : Int32} (ev : t.eval args s none [] s = some (.ref a)) (h : (Jvm.Cond.eq (.field t C n d) (.int k)).value args s none s [] = some true) : Fld s s.heap a C n d (.int k) :=
  Fld.start ((fld_at ev).symm.trans (eqv_i (F := .int k) rfl h))
def sg3 (o n z p : Int32) : Int32 := if o < 0 then n else if o = 0 then z else p
theorem sg_cases (o : Int32) : (o < 0 ∧ ¬ o = 0 ∧ ¬ 0 < o) ∨ (o = 0 ∧ ¬ o < 0 ∧ ¬ 0 < o) ∨ (0 < o ∧ ¬ o < 0 ∧ ¬ o = 0) := by
  have z : (0 : Int32).toInt = 0 := rfl
  simp only [Int32.lt_iff_toInt_lt, ← Int32.toInt_inj, z]
  omega
theorem sg_n {o n z p : Int32} (h : o < 0) : sg3 o n z p = n := if_pos h
theorem sg_z {o n z p : Int32} (h : ¬ o < 0) (h' : o = 0) : sg3 o n z p = z := by simp only [sg3, if_neg h, if_pos h']
theorem sg_p {o n z p : Int32} (h : ¬ o < 0) (h' : ¬ o = 0) : sg3 o n z p = p := by simp only [sg3, if_neg h, if_neg h']
set_option maxRecDepth 65536 in
set_option maxHeartbeats 40000000 in
theorem rmOrd (l : Launch) (Z : State) (a0 : Array Value) (hw : ∀ d ∈ tables_1, d.before a0 Z = true) (n0 : Nat) (h0 : Heap) (O : Old Z n0 h0) (a : Addr) (k : Int32) (F : Fld Z h0 a "java/lang/Enum" "ordinal" "I" (.int k)) :
    ConW FrameEnd l Z [] (⟨"java/lang/Enum", "ordinal", "()I"⟩ : MethodName) jdk_37_method_2_code 1 (some .int) ({ frames := 0, cells := 0, slots := 0, locals := 0 } : Room) #[(.ref a)] h0 (Pure h0 (some (.int k))) := by
  refine conOf (plainFor_of_name pn_java_lang_Enum) ?_
  intro p e s m below mth cc s₁ X0 hx hby hml hown hnm hret hlk hZ e0
  have N0 := Fr.nil n0
  refine Fin.came (castTop (t := _) (by first | (simp [entryFrame, mkF, argsToLocals, Value.category]; done) | rfl) (Steps.refl _) : Steps p.tables e below (s₁.setTop (entryFrame m #[(.ref a)] 1)) (s₁.setTop (mkF m 0 #[.val (.ref a)] []))) ?_
  show Fin _ p e below s _ _ _ s₁ (mkF m 0 #[.val (.ref a)] [])
  refine Fin.go (fun _ k => XS.aloadN X0.here hx rfl (hb hby d2_0) rfl rfl k) ?_
  show Fin _ p e below s _ _ _ s₁ (mkF m 1 #[.val (.ref a)] [(.ref a)])
  obtain ⟨T1, X1, e1, st1⟩ := getF X0 hx hZ hown (host := "") (Or.inl (hw _ w_16)) Via.refl e0 F (g := (mkF m 1 #[.val (.ref a)] [(.ref a)])) rfl rfl (hb hby d2_1)
  refine Fin.go st1 ?_
  show Fin _ p e below s _ _ _ T1 (mkF m 4 #[.val (.ref a)] [(.int k)])
  exact Fin.leaveN X1 e1 hlk (v := some (.int k)) (fun h => by rw [hret] at h; cases h) (by decide) (by decide) ⟨rfl, rfl, rfl⟩ (fun fs hr => retI X1 hx hret (hb hby d2_4) hr)
set_option maxRecDepth 65536 in
set_option maxHeartbeats 40000000 in
theorem rmH0 (l : Launch) (Z : State) (a0 : Array Value) (hw : ∀ d ∈ tables_1, d.before a0 Z = true) (n0 : Nat) (h0 : Heap) (O : Old Z n0 h0) (a : Addr) (o : Int32) (A : Exa Z h0 a "com/example/grantwell/grantwell/catalog/Condition$Operator") (F : Fld Z h0 a "java/lang/Enum" "ordinal" "I" (.int (0 : Int32))) :
    ConW FrameEnd l Z [] (⟨"com/example/grantwell/grantwell/catalog/Condition$Operator", "holdsFor", "(I)Z"⟩ : MethodName) prog_36_method_5_code 2 (some .boolean) ({ frames := 1, cells := 0, slots := 0, locals := 12 } : Room) #[(.ref a), (.int o)] h0 (Pure h0 (some (.int (sg3 o 0 1 0)))) := by
  refine conOf (plainFor_of_name pn_com_example_grantwell_grantwell_catalog_Condition_Operator) ?_
  intro p e s m below mth cc s₁ X0 hx hby hml hown hnm hret hlk hZ e0
  have N0 := Fr.nil n0
  refine Fin.came (castTop (t := _) (by first | (simp [entryFrame, mkF, argsToLocals, Value.category]; done) | rfl) (Steps.refl _) : Steps p.tables e below (s₁.setTop (entryFrame m #[(.ref a), (.int o)] 2)) (s₁.setTop (mkF m 0 #[.val (.ref a), .val (.int o)] []))) ?_
  show Fin _ p e below s _ _ _ s₁ (mkF m 0 #[.val (.ref a), .val (.int o)] [])
  refine Fin.go (fun _ k => XS.aloadN X0.here hx rfl (hb hby d1_0) rfl rfl k) ?_
  show Fin _ p e below s _ _ _ s₁ (mkF m 1 #[.val (.ref a), .val (.int o)] [(.ref a)])
  obtain ⟨v1, T1, L1, X1, q1, st1⟩ := callVUt X0 hx hZ (y := (⟨"com/example/grantwell/grantwell/catalog/Condition$Operator", "ordinal", "()I"⟩ : MethodName)) (z := (⟨"java/lang/Enum", "ordinal", "()I"⟩ : MethodName)) (owner := "java/lang/Enum") hown (hw _ w_9) (hw _ w_10) (hw _ w_11) (hw _ w_13) (hw _ w_12) (hw _ w_14) (hw _ w_15) (by decide) (W := 0) (rmOrd l Z a0 hw n0 h0 O a (0 : Int32) F) e0 A (by decide) (by decide) (by decide) (by decide) (g := (mkF m 1 #[.val (.ref a), .val (.int o)] [(.ref a)])) rfl (by rw [hml]; rfl) (argsL := []) (rest := []) (lenOf pd_ocI rfl) rfl (by show 2 * 0 + _ ≤ _; exact Nat.le_of_eq rfl) (hb hby d1_1)
  obtain ⟨rfl, e1, rfl⟩ := q1
  have N1 := Fr.app N0 (Fr.nil n0)
  refine Fin.go st1 ?_
  show Fin _ p e below s _ _ _ T1 (mkF m 4 #[.val (.ref a), .val (.int o)] [(.int (0 : Int32))])
  refine Fin.go (fun _ k => XS.tswIn X1.here hx rfl (pc0 := 4) (pc' := 54) rfl (hb hby d1_4) (i := (0 : Int32)) rfl (by decide) (o := 50) (by decide) (by decide) (by decide) k) ?_
  show Fin _ p e below s _ _ _ T1 (mkF m 54 #[.val (.ref a), .val (.int o)] [])
  refine Fin.go (fun _ k => XS.iloadN X1.here hx rfl (hb hby d1_54) rfl k) ?_
  show Fin _ p e below s _ _ _ T1 (mkF m 55 #[.val (.ref a), .val (.int o)] [(.int o)])
  by_cases c55 : o = 0
  · refine Fin.go (fun _ k => XS.ifNo X1.here hx rfl (hb hby d1_55) rfl (XT.i0_ne_f c55) k) ?_
    show Fin _ p e below s _ _ _ T1 (mkF m 58 #[.val (.ref a), .val (.int o)] [])
    refine Fin.go (fun _ k => XS.iconst X1.here hx rfl (hb hby d1_58) k) ?_
    show Fin _ p e below s _ _ _ T1 (mkF m 59 #[.val (.ref a), .val (.int o)] [(.int (1 : Int32))])
    refine Fin.go (fun _ k => XS.goto X1.here hx rfl (pc0 := 59) (pc' := 123) rfl (hb hby d1_59) (by decide) (by decide) k) ?_
    show Fin _ p e below s _ _ _ T1 (mkF m 123 #[.val (.ref a), .val (.int o)] [(.int (1 : Int32))])
    exact Fin.leaveN X1 e1 hlk (v := some (.int (nar .boolean (1 : Int32)))) (fun h => by rw [hret] at h; cases h) (by decide) (by decide) ⟨by rcases sg_cases o with ⟨q1, q2, q3⟩ | ⟨q1, q2, q3⟩ | ⟨q1, q2, q3⟩ <;> simp_all [sg3, nar], rfl, rfl⟩ (fun fs hr => retN X1 hx (t := .boolean) hret (by simp) (hb hby d1_123) hr)
  · refine Fin.go (fun _ k => XS.ifYes X1.here hx rfl (pc0 := 55) (pc' := 62) rfl (hb hby d1_55) rfl (XT.i0_ne_t c55) (by decide) (by decide) k) ?_
    show Fin _ p e below s _ _ _ T1 (mkF m 62 #[.val (.ref a), .val (.int o)] [])
    refine Fin.go (fun _ k => XS.iconst X1.here hx rfl (hb hby d1_62) k) ?_
    show Fin _ p e below s _ _ _ T1 (mkF m 63 #[.val (.ref a), .val (.int o)] [(.int (0 : Int32))])
    refine Fin.go (fun _ k => XS.goto X1.here hx rfl (pc0 := 63) (pc' := 123) rfl (hb hby d1_63) (by decide) (by decide) k) ?_
    show Fin _ p e below s _ _ _ T1 (mkF m 123 #[.val (.ref a), .val (.int o)] [(.int (0 : Int32))])
    exact Fin.leaveN X1 e1 hlk (v := some (.int (nar .boolean (0 : Int32)))) (fun h => by rw [hret] at h; cases h) (by decide) (by decide) ⟨by rcases sg_cases o with ⟨q1, q2, q3⟩ | ⟨q1, q2, q3⟩ | ⟨q1, q2, q3⟩ <;> simp_all [sg3, nar], rfl, rfl⟩ (fun fs hr => retN X1 hx (t := .boolean) hret (by simp) (hb hby d1_123) hr)
set_option maxRecDepth 65536 in
set_option maxHeartbeats 40000000 in
theorem rmH1 (l : Launch) (Z : State) (a0 : Array Value) (hw : ∀ d ∈ tables_1, d.before a0 Z = true) (n0 : Nat) (h0 : Heap) (O : Old Z n0 h0) (a : Addr) (o : Int32) (A : Exa Z h0 a "com/example/grantwell/grantwell/catalog/Condition$Operator") (F : Fld Z h0 a "java/lang/Enum" "ordinal" "I" (.int (1 : Int32))) :
    ConW FrameEnd l Z [] (⟨"com/example/grantwell/grantwell/catalog/Condition$Operator", "holdsFor", "(I)Z"⟩ : MethodName) prog_36_method_5_code 2 (some .boolean) ({ frames := 1, cells := 0, slots := 0, locals := 12 } : Room) #[(.ref a), (.int o)] h0 (Pure h0 (some (.int (sg3 o 1 0 1)))) := by
  refine conOf (plainFor_of_name pn_com_example_grantwell_grantwell_catalog_Condition_Operator) ?_
  intro p e s m below mth cc s₁ X0 hx hby hml hown hnm hret hlk hZ e0
  have N0 := Fr.nil n0
  refine Fin.came (castTop (t := _) (by first | (simp [entryFrame, mkF, argsToLocals, Value.category]; done) | rfl) (Steps.refl _) : Steps p.tables e below (s₁.setTop (entryFrame m #[(.ref a), (.int o)] 2)) (s₁.setTop (mkF m 0 #[.val (.ref a), .val (.int o)] []))) ?_
  show Fin _ p e below s _ _ _ s₁ (mkF m 0 #[.val (.ref a), .val (.int o)] [])
  refine Fin.go (fun _ k => XS.aloadN X0.here hx rfl (hb hby d1_0) rfl rfl k) ?_
  show Fin _ p e below s _ _ _ s₁ (mkF m 1 #[.val (.ref a), .val (.int o)] [(.ref a)])
  obtain ⟨v1, T1, L1, X1, q1, st1⟩ := callVUt X0 hx hZ (y := (⟨"com/example/grantwell/grantwell/catalog/Condition$Operator", "ordinal", "()I"⟩ : MethodName)) (z := (⟨"java/lang/Enum", "ordinal", "()I"⟩ : MethodName)) (owner := "java/lang/Enum") hown (hw _ w_9) (hw _ w_10) (hw _ w_11) (hw _ w_13) (hw _ w_12) (hw _ w_14) (hw _ w_15) (by decide) (W := 0) (rmOrd l Z a0 hw n0 h0 O a (1 : Int32) F) e0 A (by decide) (by decide) (by decide) (by decide) (g := (mkF m 1 #[.val (.ref a), .val (.int o)] [(.ref a)])) rfl (by rw [hml]; rfl) (argsL := []) (rest := []) (lenOf pd_ocI rfl) rfl (by show 2 * 0 + _ ≤ _; exact Nat.le_of_eq rfl) (hb hby d1_1)
  obtain ⟨rfl, e1, rfl⟩ := q1
  have N1 := Fr.app N0 (Fr.nil n0)
  refine Fin.go st1 ?_
  show Fin _ p e below s _ _ _ T1 (mkF m 4 #[.val (.ref a), .val (.int o)] [(.int (1 : Int32))])
  refine Fin.go (fun _ k => XS.tswIn X1.here hx rfl (pc0 := 4) (pc' := 66) rfl (hb hby d1_4) (i := (1 : Int32)) rfl (by decide) (o := 62) (by decide) (by decide) (by decide) k) ?_
  show Fin _ p e below s _ _ _ T1 (mkF m 66 #[.val (.ref a), .val (.int o)] [])
  refine Fin.go (fun _ k => XS.iloadN X1.here hx rfl (hb hby d1_66) rfl k) ?_
  show Fin _ p e below s _ _ _ T1 (mkF m 67 #[.val (.ref a), .val (.int o)] [(.int o)])
  by_cases c67 : o = 0
  · refine Fin.go (fun _ k => XS.ifYes X1.here hx rfl (pc0 := 67) (pc' := 74) rfl (hb hby d1_67) rfl (XT.i0_eq_t c67) (by decide) (by decide) k) ?_
    show Fin _ p e below s _ _ _ T1 (mkF m 74 #[.val (.ref a), .val (.int o)] [])
    refine Fin.go (fun _ k => XS.iconst X1.here hx rfl (hb hby d1_74) k) ?_
    show Fin _ p e below s _ _ _ T1 (mkF m 75 #[.val (.ref a), .val (.int o)] [(.int (0 : Int32))])
    refine Fin.go (fun _ k => XS.goto X1.here hx rfl (pc0 := 75) (pc' := 123) rfl (hb hby d1_75) (by decide) (by decide) k) ?_
    show Fin _ p e below s _ _ _ T1 (mkF m 123 #[.val (.ref a), .val (.int o)] [(.int (0 : Int32))])
    exact Fin.leaveN X1 e1 hlk (v := some (.int (nar .boolean (0 : Int32)))) (fun h => by rw [hret] at h; cases h) (by decide) (by decide) ⟨by rcases sg_cases o with ⟨q1, q2, q3⟩ | ⟨q1, q2, q3⟩ | ⟨q1, q2, q3⟩ <;> simp_all [sg3, nar], rfl, rfl⟩ (fun fs hr => retN X1 hx (t := .boolean) hret (by simp) (hb hby d1_123) hr)
  · refine Fin.go (fun _ k => XS.ifNo X1.here hx rfl (hb hby d1_67) rfl (XT.i0_eq_f c67) k) ?_
    show Fin _ p e below s _ _ _ T1 (mkF m 70 #[.val (.ref a), .val (.int o)] [])
    refine Fin.go (fun _ k => XS.iconst X1.here hx rfl (hb hby d1_70) k) ?_
    show Fin _ p e below s _ _ _ T1 (mkF m 71 #[.val (.ref a), .val (.int o)] [(.int (1 : Int32))])
    refine Fin.go (fun _ k => XS.goto X1.here hx rfl (pc0 := 71) (pc' := 123) rfl (hb hby d1_71) (by decide) (by decide) k) ?_
    show Fin _ p e below s _ _ _ T1 (mkF m 123 #[.val (.ref a), .val (.int o)] [(.int (1 : Int32))])
    exact Fin.leaveN X1 e1 hlk (v := some (.int (nar .boolean (1 : Int32)))) (fun h => by rw [hret] at h; cases h) (by decide) (by decide) ⟨by rcases sg_cases o with ⟨q1, q2, q3⟩ | ⟨q1, q2, q3⟩ | ⟨q1, q2, q3⟩ <;> simp_all [sg3, nar], rfl, rfl⟩ (fun fs hr => retN X1 hx (t := .boolean) hret (by simp) (hb hby d1_123) hr)
set_option maxRecDepth 65536 in
set_option maxHeartbeats 40000000 in
theorem rmH2 (l : Launch) (Z : State) (a0 : Array Value) (hw : ∀ d ∈ tables_1, d.before a0 Z = true) (n0 : Nat) (h0 : Heap) (O : Old Z n0 h0) (a : Addr) (o : Int32) (A : Exa Z h0 a "com/example/grantwell/grantwell/catalog/Condition$Operator") (F : Fld Z h0 a "java/lang/Enum" "ordinal" "I" (.int (2 : Int32))) :
    ConW FrameEnd l Z [] (⟨"com/example/grantwell/grantwell/catalog/Condition$Operator", "holdsFor", "(I)Z"⟩ : MethodName) prog_36_method_5_code 2 (some .boolean) ({ frames := 1, cells := 0, slots := 0, locals := 12 } : Room) #[(.ref a), (.int o)] h0 (Pure h0 (some (.int (sg3 o 1 0 0)))) := by
  refine conOf (plainFor_of_name pn_com_example_grantwell_grantwell_catalog_Condition_Operator) ?_
  intro p e s m below mth cc s₁ X0 hx hby hml hown hnm hret hlk hZ e0
  have N0 := Fr.nil n0
  refine Fin.came (castTop (t := _) (by first | (simp [entryFrame, mkF, argsToLocals, Value.category]; done) | rfl) (Steps.refl _) : Steps p.tables e below (s₁.setTop (entryFrame m #[(.ref a), (.int o)] 2)) (s₁.setTop (mkF m 0 #[.val (.ref a), .val (.int o)] []))) ?_
  show Fin _ p e below s _ _ _ s₁ (mkF m 0 #[.val (.ref a), .val (.int o)] [])
  refine Fin.go (fun _ k => XS.aloadN X0.here hx rfl (hb hby d1_0) rfl rfl k) ?_
  show Fin _ p e below s _ _ _ s₁ (mkF m 1 #[.val (.ref a), .val (.int o)] [(.ref a)])
  obtain ⟨v1, T1, L1, X1, q1, st1⟩ := callVUt X0 hx hZ (y := (⟨"com/example/grantwell/grantwell/catalog/Condition$Operator", "ordinal", "()I"⟩ : MethodName)) (z := (⟨"java/lang/Enum", "ordinal", "()I"⟩ : MethodName)) (owner := "java/lang/Enum") hown (hw _ w_9) (hw _ w_10) (hw _ w_11) (hw _ w_13) (hw _ w_12) (hw _ w_14) (hw _ w_15) (by decide) (W := 0) (rmOrd l Z a0 hw n0 h0 O a (2 : Int32) F) e0 A (by decide) (by decide) (by decide) (by decide) (g := (mkF m 1 #[.val (.ref a), .val (.int o)] [(.ref a)])) rfl (by rw [hml]; rfl) (argsL := []) (rest := []) (lenOf pd_ocI rfl) rfl (by show 2 * 0 + _ ≤ _; exact Nat.le_of_eq rfl) (hb hby d1_1)
  obtain ⟨rfl, e1, rfl⟩ := q1
  have N1 := Fr.app N0 (Fr.nil n0)
  refine Fin.go st1 ?_
  show Fin _ p e below s _ _ _ T1 (mkF m 4 #[.val (.ref a), .val (.int o)] [(.int (2 : Int32))])
  refine Fin.go (fun _ k => XS.tswIn X1.here hx rfl (pc0 := 4) (pc' := 78) rfl (hb hby d1_4) (i := (2 : Int32)) rfl (by decide) (o := 74) (by decide) (by decide) (by decide) k) ?_
  show Fin _ p e below s _ _ _ T1 (mkF m 78 #[.val (.ref a), .val (.int o)] [])
  refine Fin.go (fun _ k => XS.iloadN X1.here hx rfl (hb hby d1_78) rfl k) ?_
  show Fin _ p e below s _ _ _ T1 (mkF m 79 #[.val (.ref a), .val (.int o)] [(.int o)])
  by_cases c79 : o < 0
  · refine Fin.go (fun _ k => XS.ifNo X1.here hx rfl (hb hby d1_79) rfl (XT.i0_ge_f c79) k) ?_
    show Fin _ p e below s _ _ _ T1 (mkF m 82 #[.val (.ref a), .val (.int o)] [])
    refine Fin.go (fun _ k => XS.iconst X1.here hx rfl (hb hby d1_82) k) ?_
    show Fin _ p e below s _ _ _ T1 (mkF m 83 #[.val (.ref a), .val (.int o)] [(.int (1 : Int32))])
    refine Fin.go (fun _ k => XS.goto X1.here hx rfl (pc0 := 83) (pc' := 123) rfl (hb hby d1_83) (by decide) (by decide) k) ?_
    show Fin _ p e below s _ _ _ T1 (mkF m 123 #[.val (.ref a), .val (.int o)] [(.int (1 : Int32))])
    exact Fin.leaveN X1 e1 hlk (v := some (.int (nar .boolean (1 : Int32)))) (fun h => by rw [hret] at h; cases h) (by decide) (by decide) ⟨by rcases sg_cases o with ⟨q1, q2, q3⟩ | ⟨q1, q2, q3⟩ | ⟨q1, q2, q3⟩ <;> simp_all [sg3, nar], rfl, rfl⟩ (fun fs hr => retN X1 hx (t := .boolean) hret (by simp) (hb hby d1_123) hr)
  · refine Fin.go (fun _ k => XS.ifYes X1.here hx rfl (pc0 := 79) (pc' := 86) rfl (hb hby d1_79) rfl (XT.i0_ge_t c79) (by decide) (by decide) k) ?_
    show Fin _ p e below s _ _ _ T1 (mkF m 86 #[.val (.ref a), .val (.int o)] [])
    refine Fin.go (fun _ k => XS.iconst X1.here hx rfl (hb hby d1_86) k) ?_
    show Fin _ p e below s _ _ _ T1 (mkF m 87 #[.val (.ref a), .val (.int o)] [(.int (0 : Int32))])
    refine Fin.go (fun _ k => XS.goto X1.here hx rfl (pc0 := 87) (pc' := 123) rfl (hb hby d1_87) (by decide) (by decide) k) ?_
    show Fin _ p e below s _ _ _ T1 (mkF m 123 #[.val (.ref a), .val (.int o)] [(.int (0 : Int32))])
    exact Fin.leaveN X1 e1 hlk (v := some (.int (nar .boolean (0 : Int32)))) (fun h => by rw [hret] at h; cases h) (by decide) (by decide) ⟨by rcases sg_cases o with ⟨q1, q2, q3⟩ | ⟨q1, q2, q3⟩ | ⟨q1, q2, q3⟩ <;> simp_all [sg3, nar], rfl, rfl⟩ (fun fs hr => retN X1 hx (t := .boolean) hret (by simp) (hb hby d1_123) hr)
set_option maxRecDepth 65536 in
set_option maxHeartbeats 40000000 in
theorem rmH3 (l : Launch) (Z : State) (a0 : Array Value) (hw : ∀ d ∈ tables_1, d.before a0 Z = true) (n0 : Nat) (h0 : Heap) (O : Old Z n0 h0) (a : Addr) (o : Int32) (A : Exa Z h0 a "com/example/grantwell/grantwell/catalog/Condition$Operator") (F : Fld Z h0 a "java/lang/Enum" "ordinal" "I" (.int (3 : Int32))) :
    ConW FrameEnd l Z [] (⟨"com/example/grantwell/grantwell/catalog/Condition$Operator", "holdsFor", "(I)Z"⟩ : MethodName) prog_36_method_5_code 2 (some .boolean) ({ frames := 1, cells := 0, slots := 0, locals := 12 } : Room) #[(.ref a), (.int o)] h0 (Pure h0 (some (.int (sg3 o 1 1 0)))) := by
  refine conOf (plainFor_of_name pn_com_example_grantwell_grantwell_catalog_Condition_Operator) ?_
  intro p e s m below mth cc s₁ X0 hx hby hml hown hnm hret hlk hZ e0
  have N0 := Fr.nil n0
  refine Fin.came (castTop (t := _) (by first | (simp [entryFrame, mkF, argsToLocals, Value.category]; done) | rfl) (Steps.refl _) : Steps p.tables e below (s₁.setTop (entryFrame m #[(.ref a), (.int o)] 2)) (s₁.setTop (mkF m 0 #[.val (.ref a), .val (.int o)] []))) ?_
  show Fin _ p e below s _ _ _ s₁ (mkF m 0 #[.val (.ref a), .val (.int o)] [])
  refine Fin.go (fun _ k => XS.aloadN X0.here hx rfl (hb hby d1_0) rfl rfl k) ?_
  show Fin _ p e below s _ _ _ s₁ (mkF m 1 #[.val (.ref a), .val (.int o)] [(.ref a)])
  obtain ⟨v1, T1, L1, X1, q1, st1⟩ := callVUt X0 hx hZ (y := (⟨"com/example/grantwell/grantwell/catalog/Condition$Operator", "ordinal", "()I"⟩ : MethodName)) (z := (⟨"java/lang/Enum", "ordinal", "()I"⟩ : MethodName)) (owner := "java/lang/Enum") hown (hw _ w_9) (hw _ w_10) (hw _ w_11) (hw _ w_13) (hw _ w_12) (hw _ w_14) (hw _ w_15) (by decide) (W := 0) (rmOrd l Z a0 hw n0 h0 O a (3 : Int32) F) e0 A (by decide) (by decide) (by decide) (by decide) (g := (mkF m 1 #[.val (.ref a), .val (.int o)] [(.ref a)])) rfl (by rw [hml]; rfl) (argsL := []) (rest := []) (lenOf pd_ocI rfl) rfl (by show 2 * 0 + _ ≤ _; exact Nat.le_of_eq rfl) (hb hby d1_1)
  obtain ⟨rfl, e1, rfl⟩ := q1
  have N1 := Fr.app N0 (Fr.nil n0)
  refine Fin.go st1 ?_
  show Fin _ p e below s _ _ _ T1 (mkF m 4 #[.val (.ref a), .val (.int o)] [(.int (3 : Int32))])
  refine Fin.go (fun _ k => XS.tswIn X1.here hx rfl (pc0 := 4) (pc' := 90) rfl (hb hby d1_4) (i := (3 : Int32)) rfl (by decide) (o := 86) (by decide) (by decide) (by decide) k) ?_
  show Fin _ p e below s _ _ _ T1 (mkF m 90 #[.val (.ref a), .val (.int o)] [])
  refine Fin.go (fun _ k => XS.iloadN X1.here hx rfl (hb hby d1_90) rfl k) ?_
  show Fin _ p e below s _ _ _ T1 (mkF m 91 #[.val (.ref a), .val (.int o)] [(.int o)])
  by_cases c91 : 0 < o
  · refine Fin.go (fun _ k => XS.ifYes X1.here hx rfl (pc0 := 91) (pc' := 98) rfl (hb hby d1_91) rfl (XT.i0_gt_t c91) (by decide) (by decide) k) ?_
    show Fin _ p e below s _ _ _ T1 (mkF m 98 #[.val (.ref a), .val (.int o)] [])
    refine Fin.go (fun _ k => XS.iconst X1.here hx rfl (hb hby d1_98) k) ?_
    show Fin _ p e below s _ _ _ T1 (mkF m 99 #[.val (.ref a), .val (.int o)] [(.int (0 : Int32))])
    refine Fin.go (fun _ k => XS.goto X1.here hx rfl (pc0 := 99) (pc' := 123) rfl (hb hby d1_99) (by decide) (by decide) k) ?_
    show Fin _ p e below s _ _ _ T1 (mkF m 123 #[.val (.ref a), .val (.int o)] [(.int (0 : Int32))])
    exact Fin.leaveN X1 e1 hlk (v := some (.int (nar .boolean (0 : Int32)))) (fun h => by rw [hret] at h; cases h) (by decide) (by decide) ⟨by rcases sg_cases o with ⟨q1, q2, q3⟩ | ⟨q1, q2, q3⟩ | ⟨q1, q2, q3⟩ <;> simp_all [sg3, nar], rfl, rfl⟩ (fun fs hr => retN X1 hx (t := .boolean) hret (by simp) (hb hby d1_123) hr)
  · refine Fin.go (fun _ k => XS.ifNo X1.here hx rfl (hb hby d1_91) rfl (XT.i0_gt_f c91) k) ?_
    show Fin _ p e below s _ _ _ T1 (mkF m 94 #[.val (.ref a), .val (.int o)] [])
    refine Fin.go (fun _ k => XS.iconst X1.here hx rfl (hb hby d1_94) k) ?_
    show Fin _ p e below s _ _ _ T1 (mkF m 95 #[.val (.ref a), .val (.int o)] [(.int (1 : Int32))])
    refine Fin.go (fun _ k => XS.goto X1.here hx rfl (pc0 := 95) (pc' := 123) rfl (hb hby d1_95) (by decide) (by decide) k) ?_
    show Fin _ p e below s _ _ _ T1 (mkF m 123 #[.val (.ref a), .val (.int o)] [(.int (1 : Int32))])
    exact Fin.leaveN X1 e1 hlk (v := some (.int (nar .boolean (1 : Int32)))) (fun h => by rw [hret] at h; cases h) (by decide) (by decide) ⟨by rcases sg_cases o with ⟨q1, q2, q3⟩ | ⟨q1, q2, q3⟩ | ⟨q1, q2, q3⟩ <;> simp_all [sg3, nar], rfl, rfl⟩ (fun fs hr => retN X1 hx (t := .boolean) hret (by simp) (hb hby d1_123) hr)
set_option maxRecDepth 65536 in
set_option maxHeartbeats 40000000 in
theorem rmH4 (l : Launch) (Z : State) (a0 : Array Value) (hw : ∀ d ∈ tables_1, d.before a0 Z = true) (n0 : Nat) (h0 : Heap) (O : Old Z n0 h0) (a : Addr) (o : Int32) (A : Exa Z h0 a "com/example/grantwell/grantwell/catalog/Condition$Operator") (F : Fld Z h0 a "java/lang/Enum" "ordinal" "I" (.int (4 : Int32))) :
    ConW FrameEnd l Z [] (⟨"com/example/grantwell/grantwell/catalog/Condition$Operator", "holdsFor", "(I)Z"⟩ : MethodName) prog_36_method_5_code 2 (some .boolean) ({ frames := 1, cells := 0, slots := 0, locals := 12 } : Room) #[(.ref a), (.int o)] h0 (Pure h0 (some (.int (sg3 o 0 0 1)))) := by
  refine conOf (plainFor_of_name pn_com_example_grantwell_grantwell_catalog_Condition_Operator) ?_
  intro p e s m below mth cc s₁ X0 hx hby hml hown hnm hret hlk hZ e0
  have N0 := Fr.nil n0
  refine Fin.came (castTop (t := _) (by first | (simp [entryFrame, mkF, argsToLocals, Value.category]; done) | rfl) (Steps.refl _) : Steps p.tables e below (s₁.setTop (entryFrame m #[(.ref a), (.int o)] 2)) (s₁.setTop (mkF m 0 #[.val (.ref a), .val (.int o)] []))) ?_
  show Fin _ p e below s _ _ _ s₁ (mkF m 0 #[.val (.ref a), .val (.int o)] [])
  refine Fin.go (fun _ k => XS.aloadN X0.here hx rfl (hb hby d1_0) rfl rfl k) ?_
  show Fin _ p e below s _ _ _ s₁ (mkF m 1 #[.val (.ref a), .val (.int o)] [(.ref a)])
  obtain ⟨v1, T1, L1, X1, q1, st1⟩ := callVUt X0 hx hZ (y := (⟨"com/example/grantwell/grantwell/catalog/Condition$Operator", "ordinal", "()I"⟩ : MethodName)) (z := (⟨"java/lang/Enum", "ordinal", "()I"⟩ : MethodName)) (owner := "java/lang/Enum") hown (hw _ w_9) (hw _ w_10) (hw _ w_11) (hw _ w_13) (hw _ w_12) (hw _ w_14) (hw _ w_15) (by decide) (W := 0) (rmOrd l Z a0 hw n0 h0 O a (4 : Int32) F) e0 A (by decide) (by decide) (by decide) (by decide) (g := (mkF m 1 #[.val (.ref a), .val (.int o)] [(.ref a)])) rfl (by rw [hml]; rfl) (argsL := []) (rest := []) (lenOf pd_ocI rfl) rfl (by show 2 * 0 + _ ≤ _; exact Nat.le_of_eq rfl) (hb hby d1_1)
  obtain ⟨rfl, e1, rfl⟩ := q1
  have N1 := Fr.app N0 (Fr.nil n0)
  refine Fin.go st1 ?_
  show Fin _ p e below s _ _ _ T1 (mkF m 4 #[.val (.ref a), .val (.int o)] [(.int (4 : Int32))])
  refine Fin.go (fun _ k => XS.tswIn X1.here hx rfl (pc0 := 4) (pc' := 102) rfl (hb hby d1_4) (i := (4 : Int32)) rfl (by decide) (o := 98) (by decide) (by decide) (by decide) k) ?_
  show Fin _ p e below s _ _ _ T1 (mkF m 102 #[.val (.ref a), .val (.int o)] [])
  refine Fin.go (fun _ k => XS.iloadN X1.here hx rfl (hb hby d1_102) rfl k) ?_
  show Fin _ p e below s _ _ _ T1 (mkF m 103 #[.val (.ref a), .val (.int o)] [(.int o)])
  by_cases c103 : 0 < o
  · refine Fin.go (fun _ k => XS.ifNo X1.here hx rfl (hb hby d1_103) rfl (XT.i0_le_f c103) k) ?_
    show Fin _ p e below s _ _ _ T1 (mkF m 106 #[.val (.ref a), .val (.int o)] [])
    refine Fin.go (fun _ k => XS.iconst X1.here hx rfl (hb hby d1_106) k) ?_
    show Fin _ p e below s _ _ _ T1 (mkF m 107 #[.val (.ref a), .val (.int o)] [(.int (1 : Int32))])
    refine Fin.go (fun _ k => XS.goto X1.here hx rfl (pc0 := 107) (pc' := 123) rfl (hb hby d1_107) (by decide) (by decide) k) ?_
    show Fin _ p e below s _ _ _ T1 (mkF m 123 #[.val (.ref a), .val (.int o)] [(.int (1 : Int32))])
    exact Fin.leaveN X1 e1 hlk (v := some (.int (nar .boolean (1 : Int32)))) (fun h => by rw [hret] at h; cases h) (by decide) (by decide) ⟨by rcases sg_cases o with ⟨q1, q2, q3⟩ | ⟨q1, q2, q3⟩ | ⟨q1, q2, q3⟩ <;> simp_all [sg3, nar], rfl, rfl⟩ (fun fs hr => retN X1 hx (t := .boolean) hret (by simp) (hb hby d1_123) hr)
  · refine Fin.go (fun _ k => XS.ifYes X1.here hx rfl (pc0 := 103) (pc' := 110) rfl (hb hby d1_103) rfl (XT.i0_le_t c103) (by decide) (by decide) k) ?_
    show Fin _ p e below s _ _ _ T1 (mkF m 110 #[.val (.ref a), .val (.int o)] [])
    refine Fin.go (fun _ k => XS.iconst X1.here hx rfl (hb hby d1_110) k) ?_
    show Fin _ p e below s _ _ _ T1 (mkF m 111 #[.val (.ref a), .val (.int o)] [(.int (0 : Int32))])
    refine Fin.go (fun _ k => XS.goto X1.here hx rfl (pc0 := 111) (pc' := 123) rfl (hb hby d1_111) (by decide) (by decide) k) ?_
    show Fin _ p e below s _ _ _ T1 (mkF m 123 #[.val (.ref a), .val (.int o)] [(.int (0 : Int32))])
    exact Fin.leaveN X1 e1 hlk (v := some (.int (nar .boolean (0 : Int32)))) (fun h => by rw [hret] at h; cases h) (by decide) (by decide) ⟨by rcases sg_cases o with ⟨q1, q2, q3⟩ | ⟨q1, q2, q3⟩ | ⟨q1, q2, q3⟩ <;> simp_all [sg3, nar], rfl, rfl⟩ (fun fs hr => retN X1 hx (t := .boolean) hret (by simp) (hb hby d1_123) hr)
set_option maxRecDepth 65536 in
set_option maxHeartbeats 40000000 in
theorem rmH5 (l : Launch) (Z : State) (a0 : Array Value) (hw : ∀ d ∈ tables_1, d.before a0 Z = true) (n0 : Nat) (h0 : Heap) (O : Old Z n0 h0) (a : Addr) (o : Int32) (A : Exa Z h0 a "com/example/grantwell/grantwell/catalog/Condition$Operator") (F : Fld Z h0 a "java/lang/Enum" "ordinal" "I" (.int (5 : Int32))) :
    ConW FrameEnd l Z [] (⟨"com/example/grantwell/grantwell/catalog/Condition$Operator", "holdsFor", "(I)Z"⟩ : MethodName) prog_36_method_5_code 2 (some .boolean) ({ frames := 1, cells := 0, slots := 0, locals := 12 } : Room) #[(.ref a), (.int o)] h0 (Pure h0 (some (.int (sg3 o 0 1 1)))) := by
  refine conOf (plainFor_of_name pn_com_example_grantwell_grantwell_catalog_Condition_Operator) ?_
  intro p e s m below mth cc s₁ X0 hx hby hml hown hnm hret hlk hZ e0
  have N0 := Fr.nil n0
  refine Fin.came (castTop (t := _) (by first | (simp [entryFrame, mkF, argsToLocals, Value.category]; done) | rfl) (Steps.refl _) : Steps p.tables e below (s₁.setTop (entryFrame m #[(.ref a), (.int o)] 2)) (s₁.setTop (mkF m 0 #[.val (.ref a), .val (.int o)] []))) ?_
  show Fin _ p e below s _ _ _ s₁ (mkF m 0 #[.val (.ref a), .val (.int o)] [])
  refine Fin.go (fun _ k => XS.aloadN X0.here hx rfl (hb hby d1_0) rfl rfl k) ?_
  show Fin _ p e below s _ _ _ s₁ (mkF m 1 #[.val (.ref a), .val (.int o)] [(.ref a)])
  obtain ⟨v1, T1, L1, X1, q1, st1⟩ := callVUt X0 hx hZ (y := (⟨"com/example/grantwell/grantwell/catalog/Condition$Operator", "ordinal", "()I"⟩ : MethodName)) (z := (⟨"java/lang/Enum", "ordinal", "()I"⟩ : MethodName)) (owner := "java/lang/Enum") hown (hw _ w_9) (hw _ w_10) (hw _ w_11) (hw _ w_13) (hw _ w_12) (hw _ w_14) (hw _ w_15) (by decide) (W := 0) (rmOrd l Z a0 hw n0 h0 O a (5 : Int32) F) e0 A (by decide) (by decide) (by decide) (by decide) (g := (mkF m 1 #[.val (.ref a), .val (.int o)] [(.ref a)])) rfl (by rw [hml]; rfl) (argsL := []) (rest := []) (lenOf pd_ocI rfl) rfl (by show 2 * 0 + _ ≤ _; exact Nat.le_of_eq rfl) (hb hby d1_1)
  obtain ⟨rfl, e1, rfl⟩ := q1
  have N1 := Fr.app N0 (Fr.nil n0)
  refine Fin.go st1 ?_
  show Fin _ p e below s _ _ _ T1 (mkF m 4 #[.val (.ref a), .val (.int o)] [(.int (5 : Int32))])
  refine Fin.go (fun _ k => XS.tswIn X1.here hx rfl (pc0 := 4) (pc' := 114) rfl (hb hby d1_4) (i := (5 : Int32)) rfl (by decide) (o := 110) (by decide) (by decide) (by decide) k) ?_
  show Fin _ p e below s _ _ _ T1 (mkF m 114 #[.val (.ref a), .val (.int o)] [])
  refine Fin.go (fun _ k => XS.iloadN X1.here hx rfl (hb hby d1_114) rfl k) ?_
  show Fin _ p e below s _ _ _ T1 (mkF m 115 #[.val (.ref a), .val (.int o)] [(.int o)])
  by_cases c115 : o < 0
  · refine Fin.go (fun _ k => XS.ifYes X1.here hx rfl (pc0 := 115) (pc' := 122) rfl (hb hby d1_115) rfl (XT.i0_lt_t c115) (by decide) (by decide) k) ?_
    show Fin _ p e below s _ _ _ T1 (mkF m 122 #[.val (.ref a), .val (.int o)] [])
    refine Fin.go (fun _ k => XS.iconst X1.here hx rfl (hb hby d1_122) k) ?_
    show Fin _ p e below s _ _ _ T1 (mkF m 123 #[.val (.ref a), .val (.int o)] [(.int (0 : Int32))])
    exact Fin.leaveN X1 e1 hlk (v := some (.int (nar .boolean (0 : Int32)))) (fun h => by rw [hret] at h; cases h) (by decide) (by decide) ⟨by rcases sg_cases o with ⟨q1, q2, q3⟩ | ⟨q1, q2, q3⟩ | ⟨q1, q2, q3⟩ <;> simp_all [sg3, nar], rfl, rfl⟩ (fun fs hr => retN X1 hx (t := .boolean) hret (by simp) (hb hby d1_123) hr)
  · refine Fin.go (fun _ k => XS.ifNo X1.here hx rfl (hb hby d1_115) rfl (XT.i0_lt_f c115) k) ?_
    show Fin _ p e below s _ _ _ T1 (mkF m 118 #[.val (.ref a), .val (.int o)] [])
    refine Fin.go (fun _ k => XS.iconst X1.here hx rfl (hb hby d1_118) k) ?_
    show Fin _ p e below s _ _ _ T1 (mkF m 119 #[.val (.ref a), .val (.int o)] [(.int (1 : Int32))])
    refine Fin.go (fun _ k => XS.goto X1.here hx rfl (pc0 := 119) (pc' := 123) rfl (hb hby d1_119) (by decide) (by decide) k) ?_
    show Fin _ p e below s _ _ _ T1 (mkF m 123 #[.val (.ref a), .val (.int o)] [(.int (1 : Int32))])
    exact Fin.leaveN X1 e1 hlk (v := some (.int (nar .boolean (1 : Int32)))) (fun h => by rw [hret] at h; cases h) (by decide) (by decide) ⟨by rcases sg_cases o with ⟨q1, q2, q3⟩ | ⟨q1, q2, q3⟩ | ⟨q1, q2, q3⟩ <;> simp_all [sg3, nar], rfl, rfl⟩ (fun fs hr => retN X1 hx (t := .boolean) hret (by simp) (hb hby d1_123) hr)
set_option maxRecDepth 65536 in
set_option maxHeartbeats 40000000 in
theorem law (l : Launch) (Z : State) (a0 : Array Value) (hw : ∀ d ∈ tables_1, d.before a0 Z = true) (n0 : Nat) (h0 : Heap) (O : Old Z n0 h0) (p0 o : Int32) (aEQ aNE aLT aLE aGT aGE : Addr) (S_aEQ : Sta Z Z.heap "com/example/grantwell/grantwell/catalog/Condition$Operator" "EQUAL" "Lcom/example/grantwell/grantwell/catalog/Condition$Operator;" (.ref aEQ)) (A_aEQ : Exa Z Z.heap aEQ "com/example/grantwell/grantwell/catalog/Condition$Operator") (S_aNE : Sta Z Z.heap "com/example/grantwell/grantwell/catalog/Condition$Operator" "NOT_EQUAL" "Lcom/example/grantwell/grantwell/catalog/Condition$Operator;" (.ref aNE)) (A_aNE : Exa Z Z.heap aNE "com/example/grantwell/grantwell/catalog/Condition$Operator") (S_aLT : Sta Z Z.heap "com/example/grantwell/grantwell/catalog/Condition$Operator" "LESS" "Lcom/example/grantwell/grantwell/catalog/Condition$Operator;" (.ref aLT)) (A_aLT : Exa Z Z.heap aLT "com/example/grantwell/grantwell/catalog/Condition$Operator") (S_aLE : Sta Z Z.heap "com/example/grantwell/grantwell/catalog/Condition$Operator" "LESS_OR_EQUAL" "Lcom/example/grantwell/grantwell/catalog/Condition$Operator;" (.ref aLE)) (A_aLE : Exa Z Z.heap aLE "com/example/grantwell/grantwell/catalog/Condition$Operator") (S_aGT : Sta Z Z.heap "com/example/grantwell/grantwell/catalog/Condition$Operator" "GREATER" "Lcom/example/grantwell/grantwell/catalog/Condition$Operator;" (.ref aGT)) (A_aGT : Exa Z Z.heap aGT "com/example/grantwell/grantwell/catalog/Condition$Operator") (S_aGE : Sta Z Z.heap "com/example/grantwell/grantwell/catalog/Condition$Operator" "GREATER_OR_EQUAL" "Lcom/example/grantwell/grantwell/catalog/Condition$Operator;" (.ref aGE)) (A_aGE : Exa Z Z.heap aGE "com/example/grantwell/grantwell/catalog/Condition$Operator") (F_aEQ : Fld Z Z.heap aEQ "java/lang/Enum" "ordinal" "I" (.int (0 : Int32))) (F_aNE : Fld Z Z.heap aNE "java/lang/Enum" "ordinal" "I" (.int (1 : Int32))) (F_aLT : Fld Z Z.heap aLT "java/lang/Enum" "ordinal" "I" (.int (2 : Int32))) (F_aLE : Fld Z Z.heap aLE "java/lang/Enum" "ordinal" "I" (.int (3 : Int32))) (F_aGT : Fld Z Z.heap aGT "java/lang/Enum" "ordinal" "I" (.int (4 : Int32))) (F_aGE : Fld Z Z.heap aGE "java/lang/Enum" "ordinal" "I" (.int (5 : Int32))) :
    ConW FrameEnd l Z tables_1 x code maxLocals ret room_1 #[(.int p0), (.int o)] h0 (fun v h L => v = some (.int 1) ∧ Fr n0 L) := by
  refine conOf (plainFor_of_name pn_com_example_grantwell_grantwell_catalog_OperatorHoldsForPinLaw) ?_
  intro p e s m below mth cc s₁ X0 hx hby hml hown hnm hret hlk hZ e0
  have N0 := Fr.nil n0
  refine Fin.came (castTop (t := _) (by first | (simp [entryFrame, mkF, argsToLocals, Value.category, maxLocals]; done) | rfl) (Steps.refl _) : Steps p.tables e below (s₁.setTop (entryFrame m #[(.int p0), (.int o)] maxLocals)) (s₁.setTop (mkF m 0 #[.val (.int p0), .val (.int o), .unset, .unset, .unset, .unset, .unset] []))) ?_
  show Fin _ p e below s _ _ _ s₁ (mkF m 0 #[.val (.int p0), .val (.int o), .unset, .unset, .unset, .unset, .unset] [])
  refine Fin.go (fun _ k => XS.iloadN X0.here hx rfl (hb hby at_0) rfl k) ?_
  show Fin _ p e below s _ _ _ s₁ (mkF m 1 #[.val (.int p0), .val (.int o), .unset, .unset, .unset, .unset, .unset] [(.int p0)])
  refine Fin.go (fun _ k => X0.ldcI hx hown (mvT hZ (hw _ w_0)) rfl (hb hby at_1) k) ?_
  show Fin _ p e below s _ _ _ s₁ (mkF m 3 #[.val (.int p0), .val (.int o), .unset, .unset, .unset, .unset, .unset] [(.int (2147483647 : Int32)), (.int p0)])
  refine Fin.go (fun _ k => XS.iand X0.here hx rfl (hb hby at_3) rfl k) ?_
  show Fin _ p e below s _ _ _ s₁ (mkF m 4 #[.val (.int p0), .val (.int o), .unset, .unset, .unset, .unset, .unset] [(.int (p0 &&& (2147483647 : Int32)))])
  refine Fin.go (fun _ k => XS.bipush X0.here hx rfl (hb hby at_4) k) ?_
  show Fin _ p e below s _ _ _ s₁ (mkF m 6 #[.val (.int p0), .val (.int o), .unset, .unset, .unset, .unset, .unset] [(.int (6 : Int32)), (.int (p0 &&& (2147483647 : Int32)))])
  refine Fin.go (fun _ k => iremM X0 hx rfl (hb hby at_6) rfl (by decide) k) ?_
  show Fin _ p e below s _ _ _ s₁ (mkF m 7 #[.val (.int p0), .val (.int o), .unset, .unset, .unset, .unset, .unset] [(.int ((p0 &&& (2147483647 : Int32)) % (6 : Int32)))])
  refine Fin.go (fun _ k => XS.istoreN X0.here hx rfl (hb hby at_7) rfl (l' := #[.val (.int p0), .val (.int o), .val (.int ((p0 &&& (2147483647 : Int32)) % (6 : Int32))), .unset, .unset, .unset, .unset]) rfl k) ?_
  show Fin _ p e below s _ _ _ s₁ (mkF m 8 #[.val (.int p0), .val (.int o), .val (.int ((p0 &&& (2147483647 : Int32)) % (6 : Int32))), .unset, .unset, .unset, .unset] [])
  refine Fin.go (fun _ k => XS.iloadN X0.here hx rfl (hb hby at_8) rfl k) ?_
  show Fin _ p e below s _ _ _ s₁ (mkF m 9 #[.val (.int p0), .val (.int o), .val (.int ((p0 &&& (2147483647 : Int32)) % (6 : Int32))), .unset, .unset, .unset, .unset] [(.int ((p0 &&& (2147483647 : Int32)) % (6 : Int32)))])
  by_cases c9 : ((p0 &&& (2147483647 : Int32)) % (6 : Int32)) = 0
  · refine Fin.go (fun _ k => XS.ifNo X0.here hx rfl (hb hby at_9) rfl (XT.i0_ne_f c9) k) ?_
    show Fin _ p e below s _ _ _ s₁ (mkF m 12 #[.val (.int p0), .val (.int o), .val (.int ((p0 &&& (2147483647 : Int32)) % (6 : Int32))), .unset, .unset, .unset, .unset] [])
    obtain ⟨T1, X1, e1, st1⟩ := getS2 X0 hx hZ hown (host := "") (Or.inl (hw _ w_1)) Via.refl e0 (S_aEQ.ext O.2) (g := (mkF m 12 #[.val (.int p0), .val (.int o), .val (.int ((p0 &&& (2147483647 : Int32)) % (6 : Int32))), .unset, .unset, .unset, .unset] [])) rfl (hb hby at_12)
    refine Fin.go st1 ?_
    show Fin _ p e below s _ _ _ T1 (mkF m 15 #[.val (.int p0), .val (.int o), .val (.int ((p0 &&& (2147483647 : Int32)) % (6 : Int32))), .unset, .unset, .unset, .unset] [(.ref aEQ)])
    refine Fin.go (fun _ k => XS.astoreN X1.here hx rfl (hb hby at_15) rfl rfl (l' := #[.val (.int p0), .val (.int o), .val (.int ((p0 &&& (2147483647 : Int32)) % (6 : Int32))), .val (.ref aEQ), .unset, .unset, .unset]) rfl k) ?_
    show Fin _ p e below s _ _ _ T1 (mkF m 16 #[.val (.int p0), .val (.int o), .val (.int ((p0 &&& (2147483647 : Int32)) % (6 : Int32))), .val (.ref aEQ), .unset, .unset, .unset] [])
    refine Fin.go (fun _ k => XS.iconst X1.here hx rfl (hb hby at_16) k) ?_
    show Fin _ p e below s _ _ _ T1 (mkF m 17 #[.val (.int p0), .val (.int o), .val (.int ((p0 &&& (2147483647 : Int32)) % (6 : Int32))), .val (.ref aEQ), .unset, .unset, .unset] [(.int (2 : Int32))])
    refine Fin.go (fun _ k => XS.istore X1.here hx rfl (hb hby at_17) rfl (l' := #[.val (.int p0), .val (.int o), .val (.int ((p0 &&& (2147483647 : Int32)) % (6 : Int32))), .val (.ref aEQ), .val (.int (2 : Int32)), .unset, .unset]) rfl k) ?_
    show Fin _ p e below s _ _ _ T1 (mkF m 19 #[.val (.int p0), .val (.int o), .val (.int ((p0 &&& (2147483647 : Int32)) % (6 : Int32))), .val (.ref aEQ), .val (.int (2 : Int32)), .unset, .unset] [])
    refine Fin.go (fun _ k => XS.goto X1.here hx rfl (pc0 := 19) (pc' := 90) rfl (hb hby at_19) (by decide) (by decide) k) ?_
    show Fin _ p e below s _ _ _ T1 (mkF m 90 #[.val (.int p0), .val (.int o), .val (.int ((p0 &&& (2147483647 : Int32)) % (6 : Int32))), .val (.ref aEQ), .val (.int (2 : Int32)), .unset, .unset] [])
    refine Fin.go (fun _ k => XS.iloadN X1.here hx rfl (hb hby at_90) rfl k) ?_
    show Fin _ p e below s _ _ _ T1 (mkF m 91 #[.val (.int p0), .val (.int o), .val (.int ((p0 &&& (2147483647 : Int32)) % (6 : Int32))), .val (.ref aEQ), .val (.int (2 : Int32)), .unset, .unset] [(.int o)])
    by_cases c91 : o < 0
    · refine Fin.go (fun _ k => XS.ifNo X1.here hx rfl (hb hby at_91) rfl (XT.i0_ge_f c91) k) ?_
      show Fin _ p e below s _ _ _ T1 (mkF m 94 #[.val (.int p0), .val (.int o), .val (.int ((p0 &&& (2147483647 : Int32)) % (6 : Int32))), .val (.ref aEQ), .val (.int (2 : Int32)), .unset, .unset] [])
      refine Fin.go (fun _ k => XS.iconst X1.here hx rfl (hb hby at_94) k) ?_
      show Fin _ p e below s _ _ _ T1 (mkF m 95 #[.val (.int p0), .val (.int o), .val (.int ((p0 &&& (2147483647 : Int32)) % (6 : Int32))), .val (.ref aEQ), .val (.int (2 : Int32)), .unset, .unset] [(.int (4 : Int32))])
      refine Fin.go (fun _ k => XS.istore X1.here hx rfl (hb hby at_95) rfl (l' := #[.val (.int p0), .val (.int o), .val (.int ((p0 &&& (2147483647 : Int32)) % (6 : Int32))), .val (.ref aEQ), .val (.int (2 : Int32)), .val (.int (4 : Int32)), .unset]) rfl k) ?_
      show Fin _ p e below s _ _ _ T1 (mkF m 97 #[.val (.int p0), .val (.int o), .val (.int ((p0 &&& (2147483647 : Int32)) % (6 : Int32))), .val (.ref aEQ), .val (.int (2 : Int32)), .val (.int (4 : Int32)), .unset] [])
      refine Fin.go (fun _ k => XS.goto X1.here hx rfl (pc0 := 97) (pc' := 113) rfl (hb hby at_97) (by decide) (by decide) k) ?_
      show Fin _ p e below s _ _ _ T1 (mkF m 113 #[.val (.int p0), .val (.int o), .val (.int ((p0 &&& (2147483647 : Int32)) % (6 : Int32))), .val (.ref aEQ), .val (.int (2 : Int32)), .val (.int (4 : Int32)), .unset] [])
      refine Fin.go (fun _ k => XS.iload X1.here hx rfl (hb hby at_113) rfl k) ?_
      show Fin _ p e below s _ _ _ T1 (mkF m 115 #[.val (.int p0), .val (.int o), .val (.int ((p0 &&& (2147483647 : Int32)) % (6 : Int32))), .val (.ref aEQ), .val (.int (2 : Int32)), .val (.int (4 : Int32)), .unset] [(.int (2 : Int32))])
      refine Fin.go (fun _ k => XS.iload X1.here hx rfl (hb hby at_115) rfl k) ?_
      show Fin _ p e below s _ _ _ T1 (mkF m 117 #[.val (.int p0), .val (.int o), .val (.int ((p0 &&& (2147483647 : Int32)) % (6 : Int32))), .val (.ref aEQ), .val (.int (2 : Int32)), .val (.int (4 : Int32)), .unset] [(.int (4 : Int32)), (.int (2 : Int32))])
      refine Fin.go (fun _ k => XS.iand X1.here hx rfl (hb hby at_117) rfl k) ?_
      show Fin _ p e below s _ _ _ T1 (mkF m 118 #[.val (.int p0), .val (.int o), .val (.int ((p0 &&& (2147483647 : Int32)) % (6 : Int32))), .val (.ref aEQ), .val (.int (2 : Int32)), .val (.int (4 : Int32)), .unset] [(.int ((2 : Int32) &&& (4 : Int32)))])
      refine Fin.go (fun _ k => XS.ifYes X1.here hx rfl (pc0 := 118) (pc' := 125) rfl (hb hby at_118) rfl (XT.i0_eq_t (by decide)) (by decide) (by decide) k) ?_
      show Fin _ p e below s _ _ _ T1 (mkF m 125 #[.val (.int p0), .val (.int o), .val (.int ((p0 &&& (2147483647 : Int32)) % (6 : Int32))), .val (.ref aEQ), .val (.int (2 : Int32)), .val (.int (4 : Int32)), .unset] [])
      refine Fin.go (fun _ k => XS.iconst X1.here hx rfl (hb hby at_125) k) ?_
      show Fin _ p e below s _ _ _ T1 (mkF m 126 #[.val (.int p0), .val (.int o), .val (.int ((p0 &&& (2147483647 : Int32)) % (6 : Int32))), .val (.ref aEQ), .val (.int (2 : Int32)), .val (.int (4 : Int32)), .unset] [(.int (0 : Int32))])
      refine Fin.go (fun _ k => XS.istore X1.here hx rfl (hb hby at_126) rfl (l' := #[.val (.int p0), .val (.int o), .val (.int ((p0 &&& (2147483647 : Int32)) % (6 : Int32))), .val (.ref aEQ), .val (.int (2 : Int32)), .val (.int (4 : Int32)), .val (.int (0 : Int32))]) rfl k) ?_
      show Fin _ p e below s _ _ _ T1 (mkF m 128 #[.val (.int p0), .val (.int o), .val (.int ((p0 &&& (2147483647 : Int32)) % (6 : Int32))), .val (.ref aEQ), .val (.int (2 : Int32)), .val (.int (4 : Int32)), .val (.int (0 : Int32))] [])
      refine Fin.go (fun _ k => XS.aloadN X1.here hx rfl (hb hby at_128) rfl rfl k) ?_
      show Fin _ p e below s _ _ _ T1 (mkF m 129 #[.val (.int p0), .val (.int o), .val (.int ((p0 &&& (2147483647 : Int32)) % (6 : Int32))), .val (.ref aEQ), .val (.int (2 : Int32)), .val (.int (4 : Int32)), .val (.int (0 : Int32))] [(.ref aEQ)])
      refine Fin.go (fun _ k => XS.iloadN X1.here hx rfl (hb hby at_129) rfl k) ?_
      show Fin _ p e below s _ _ _ T1 (mkF m 130 #[.val (.int p0), .val (.int o), .val (.int ((p0 &&& (2147483647 : Int32)) % (6 : Int32))), .val (.ref aEQ), .val (.int (2 : Int32)), .val (.int (4 : Int32)), .val (.int (0 : Int32))] [(.int o), (.ref aEQ)])
      have r2 := rmH0 l Z a0 hw n0 h0 O aEQ o (A_aEQ.ext O.2) (F_aEQ.ext O.2)
      rw [sg_n c91] at r2
      obtain ⟨v3, T3, L3, X3, q3, st3⟩ := callVt X1 hx hZ (y := (⟨"com/example/grantwell/grantwell/catalog/Condition$Operator", "holdsFor", "(I)Z"⟩ : MethodName)) hown (hw _ w_4) (hw _ w_5) (hw _ w_7) (hw _ w_6) (hw _ w_2) (hw _ w_8) (by decide) (W := 0) (r2) e1 (A_aEQ.ext O.2) (by decide) (by decide) (by decide) (by decide) (g := (mkF m 130 #[.val (.int p0), .val (.int o), .val (.int ((p0 &&& (2147483647 : Int32)) % (6 : Int32))), .val (.ref aEQ), .val (.int (2 : Int32)), .val (.int (4 : Int32)), .val (.int (0 : Int32))] [(.int o), (.ref aEQ)])) rfl (by rw [hml]; rfl) (argsL := [(.int o)]) (rest := []) (lenOf pd_oIcZ rfl) rfl (by show 2 * 0 + _ ≤ _; exact Nat.le_of_eq rfl) (hb hby at_130)
      obtain ⟨rfl, e3, rfl⟩ := q3
      have N3 := Fr.app N0 (Fr.nil n0)
      refine Fin.go st3 ?_
      show Fin _ p e below s _ _ _ T3 (mkF m 133 #[.val (.int p0), .val (.int o), .val (.int ((p0 &&& (2147483647 : Int32)) % (6 : Int32))), .val (.ref aEQ), .val (.int (2 : Int32)), .val (.int (4 : Int32)), .val (.int (0 : Int32))] [(.int (0 : Int32))])
      refine Fin.go (fun _ k => XS.iload X3.here hx rfl (hb hby at_133) rfl k) ?_
      show Fin _ p e below s _ _ _ T3 (mkF m 135 #[.val (.int p0), .val (.int o), .val (.int ((p0 &&& (2147483647 : Int32)) % (6 : Int32))), .val (.ref aEQ), .val (.int (2 : Int32)), .val (.int (4 : Int32)), .val (.int (0 : Int32))] [(.int (0 : Int32)), (.int (0 : Int32))])
      refine Fin.go (fun _ k => XS.icmpNo X3.here hx rfl (hb hby at_135) rfl (XT.ii_ne_f (by decide)) k) ?_
      show Fin _ p e below s _ _ _ T3 (mkF m 138 #[.val (.int p0), .val (.int o), .val (.int ((p0 &&& (2147483647 : Int32)) % (6 : Int32))), .val (.ref aEQ), .val (.int (2 : Int32)), .val (.int (4 : Int32)), .val (.int (0 : Int32))] [])
      refine Fin.go (fun _ k => XS.iconst X3.here hx rfl (hb hby at_138) k) ?_
      show Fin _ p e below s _ _ _ T3 (mkF m 139 #[.val (.int p0), .val (.int o), .val (.int ((p0 &&& (2147483647 : Int32)) % (6 : Int32))), .val (.ref aEQ), .val (.int (2 : Int32)), .val (.int (4 : Int32)), .val (.int (0 : Int32))] [(.int (1 : Int32))])
      refine Fin.go (fun _ k => XS.goto X3.here hx rfl (pc0 := 139) (pc' := 143) rfl (hb hby at_139) (by decide) (by decide) k) ?_
      show Fin _ p e below s _ _ _ T3 (mkF m 143 #[.val (.int p0), .val (.int o), .val (.int ((p0 &&& (2147483647 : Int32)) % (6 : Int32))), .val (.ref aEQ), .val (.int (2 : Int32)), .val (.int (4 : Int32)), .val (.int (0 : Int32))] [(.int (1 : Int32))])
      exact Fin.leaveN X3 e3 hlk (v := some (.int (nar .boolean (1 : Int32)))) (fun h => by rw [hret] at h; cases h) (by decide) (by decide) ⟨rfl, N3⟩ (fun fs hr => retN X3 hx (t := .boolean) hret (by simp) (hb hby at_143) hr)
    · refine Fin.go (fun _ k => XS.ifYes X1.here hx rfl (pc0 := 91) (pc' := 100) rfl (hb hby at_91) rfl (XT.i0_ge_t c91) (by decide) (by decide) k) ?_
      show Fin _ p e below s _ _ _ T1 (mkF m 100 #[.val (.int p0), .val (.int o), .val (.int ((p0 &&& (2147483647 : Int32)) % (6 : Int32))), .val (.ref aEQ), .val (.int (2 : Int32)), .unset, .unset] [])
      refine Fin.go (fun _ k => XS.iloadN X1.here hx rfl (hb hby at_100) rfl k) ?_
      show Fin _ p e below s _ _ _ T1 (mkF m 101 #[.val (.int p0), .val (.int o), .val (.int ((p0 &&& (2147483647 : Int32)) % (6 : Int32))), .val (.ref aEQ), .val (.int (2 : Int32)), .unset, .unset] [(.int o)])
      by_cases c101 : o = 0
      · refine Fin.go (fun _ k => XS.ifNo X1.here hx rfl (hb hby at_101) rfl (XT.i0_ne_f c101) k) ?_
        show Fin _ p e below s _ _ _ T1 (mkF m 104 #[.val (.int p0), .val (.int o), .val (.int ((p0 &&& (2147483647 : Int32)) % (6 : Int32))), .val (.ref aEQ), .val (.int (2 : Int32)), .unset, .unset] [])
        refine Fin.go (fun _ k => XS.iconst X1.here hx rfl (hb hby at_104) k) ?_
        show Fin _ p e below s _ _ _ T1 (mkF m 105 #[.val (.int p0), .val (.int o), .val (.int ((p0 &&& (2147483647 : Int32)) % (6 : Int32))), .val (.ref aEQ), .val (.int (2 : Int32)), .unset, .unset] [(.int (2 : Int32))])
        refine Fin.go (fun _ k => XS.istore X1.here hx rfl (hb hby at_105) rfl (l' := #[.val (.int p0), .val (.int o), .val (.int ((p0 &&& (2147483647 : Int32)) % (6 : Int32))), .val (.ref aEQ), .val (.int (2 : Int32)), .val (.int (2 : Int32)), .unset]) rfl k) ?_
        show Fin _ p e below s _ _ _ T1 (mkF m 107 #[.val (.int p0), .val (.int o), .val (.int ((p0 &&& (2147483647 : Int32)) % (6 : Int32))), .val (.ref aEQ), .val (.int (2 : Int32)), .val (.int (2 : Int32)), .unset] [])
        refine Fin.go (fun _ k => XS.goto X1.here hx rfl (pc0 := 107) (pc' := 113) rfl (hb hby at_107) (by decide) (by decide) k) ?_
        show Fin _ p e below s _ _ _ T1 (mkF m 113 #[.val (.int p0), .val (.int o), .val (.int ((p0 &&& (2147483647 : Int32)) % (6 : Int32))), .val (.ref aEQ), .val (.int (2 : Int32)), .val (.int (2 : Int32)), .unset] [])
        refine Fin.go (fun _ k => XS.iload X1.here hx rfl (hb hby at_113) rfl k) ?_
        show Fin _ p e below s _ _ _ T1 (mkF m 115 #[.val (.int p0), .val (.int o), .val (.int ((p0 &&& (2147483647 : Int32)) % (6 : Int32))), .val (.ref aEQ), .val (.int (2 : Int32)), .val (.int (2 : Int32)), .unset] [(.int (2 : Int32))])
        refine Fin.go (fun _ k => XS.iload X1.here hx rfl (hb hby at_115) rfl k) ?_
        show Fin _ p e below s _ _ _ T1 (mkF m 117 #[.val (.int p0), .val (.int o), .val (.int ((p0 &&& (2147483647 : Int32)) % (6 : Int32))), .val (.ref aEQ), .val (.int (2 : Int32)), .val (.int (2 : Int32)), .unset] [(.int (2 : Int32)), (.int (2 : Int32))])
        refine Fin.go (fun _ k => XS.iand X1.here hx rfl (hb hby at_117) rfl k) ?_
        show Fin _ p e below s _ _ _ T1 (mkF m 118 #[.val (.int p0), .val (.int o), .val (.int ((p0 &&& (2147483647 : Int32)) % (6 : Int32))), .val (.ref aEQ), .val (.int (2 : Int32)), .val (.int (2 : Int32)), .unset] [(.int ((2 : Int32) &&& (2 : Int32)))])
        refine Fin.go (fun _ k => XS.ifNo X1.here hx rfl (hb hby at_118) rfl (XT.i0_eq_f (by decide)) k) ?_
        show Fin _ p e below s _ _ _ T1 (mkF m 121 #[.val (.int p0), .val (.int o), .val (.int ((p0 &&& (2147483647 : Int32)) % (6 : Int32))), .val (.ref aEQ), .val (.int (2 : Int32)), .val (.int (2 : Int32)), .unset] [])
        refine Fin.go (fun _ k => XS.iconst X1.here hx rfl (hb hby at_121) k) ?_
        show Fin _ p e below s _ _ _ T1 (mkF m 122 #[.val (.int p0), .val (.int o), .val (.int ((p0 &&& (2147483647 : Int32)) % (6 : Int32))), .val (.ref aEQ), .val (.int (2 : Int32)), .val (.int (2 : Int32)), .unset] [(.int (1 : Int32))])
        refine Fin.go (fun _ k => XS.goto X1.here hx rfl (pc0 := 122) (pc' := 126) rfl (hb hby at_122) (by decide) (by decide) k) ?_
        show Fin _ p e below s _ _ _ T1 (mkF m 126 #[.val (.int p0), .val (.int o), .val (.int ((p0 &&& (2147483647 : Int32)) % (6 : Int32))), .val (.ref aEQ), .val (.int (2 : Int32)), .val (.int (2 : Int32)), .unset] [(.int (1 : Int32))])
        refine Fin.go (fun _ k => XS.istore X1.here hx rfl (hb hby at_126) rfl (l' := #[.val (.int p0), .val (.int o), .val (.int ((p0 &&& (2147483647 : Int32)) % (6 : Int32))), .val (.ref aEQ), .val (.int (2 : Int32)), .val (.int (2 : Int32)), .val (.int (1 : Int32))]) rfl k) ?_
        show Fin _ p e below s _ _ _ T1 (mkF m 128 #[.val (.int p0), .val (.int o), .val (.int ((p0 &&& (2147483647 : Int32)) % (6 : Int32))), .val (.ref aEQ), .val (.int (2 : Int32)), .val (.int (2 : Int32)), .val (.int (1 : Int32))] [])
        refine Fin.go (fun _ k => XS.aloadN X1.here hx rfl (hb hby at_128) rfl rfl k) ?_
        show Fin _ p e below s _ _ _ T1 (mkF m 129 #[.val (.int p0), .val (.int o), .val (.int ((p0 &&& (2147483647 : Int32)) % (6 : Int32))), .val (.ref aEQ), .val (.int (2 : Int32)), .val (.int (2 : Int32)), .val (.int (1 : Int32))] [(.ref aEQ)])
        refine Fin.go (fun _ k => XS.iloadN X1.here hx rfl (hb hby at_129) rfl k) ?_
        show Fin _ p e below s _ _ _ T1 (mkF m 130 #[.val (.int p0), .val (.int o), .val (.int ((p0 &&& (2147483647 : Int32)) % (6 : Int32))), .val (.ref aEQ), .val (.int (2 : Int32)), .val (.int (2 : Int32)), .val (.int (1 : Int32))] [(.int o), (.ref aEQ)])
        have r4 := rmH0 l Z a0 hw n0 h0 O aEQ o (A_aEQ.ext O.2) (F_aEQ.ext O.2)
        rw [sg_z c91 c101] at r4
        obtain ⟨v5, T5, L5, X5, q5, st5⟩ := callVt X1 hx hZ (y := (⟨"com/example/grantwell/grantwell/catalog/Condition$Operator", "holdsFor", "(I)Z"⟩ : MethodName)) hown (hw _ w_4) (hw _ w_5) (hw _ w_7) (hw _ w_6) (hw _ w_2) (hw _ w_8) (by decide) (W := 0) (r4) e1 (A_aEQ.ext O.2) (by decide) (by decide) (by decide) (by decide) (g := (mkF m 130 #[.val (.int p0), .val (.int o), .val (.int ((p0 &&& (2147483647 : Int32)) % (6 : Int32))), .val (.ref aEQ), .val (.int (2 : Int32)), .val (.int (2 : Int32)), .val (.int (1 : Int32))] [(.int o), (.ref aEQ)])) rfl (by rw [hml]; rfl) (argsL := [(.int o)]) (rest := []) (lenOf pd_oIcZ rfl) rfl (by show 2 * 0 + _ ≤ _; exact Nat.le_of_eq rfl) (hb hby at_130)
        obtain ⟨rfl, e5, rfl⟩ := q5
        have N5 := Fr.app N0 (Fr.nil n0)
        refine Fin.go st5 ?_
        show Fin _ p e below s _ _ _ T5 (mkF m 133 #[.val (.int p0), .val (.int o), .val (.int ((p0 &&& (2147483647 : Int32)) % (6 : Int32))), .val (.ref aEQ), .val (.int (2 : Int32)), .val (.int (2 : Int32)), .val (.int (1 : Int32))] [(.int (1 : Int32))])
        refine Fin.go (fun _ k => XS.iload X5.here hx rfl (hb hby at_133) rfl k) ?_
        show Fin _ p e below s _ _ _ T5 (mkF m 135 #[.val (.int p0), .val (.int o), .val (.int ((p0 &&& (2147483647 : Int32)) % (6 : Int32))), .val (.ref aEQ), .val (.int (2 : Int32)), .val (.int (2 : Int32)), .val (.int (1 : Int32))] [(.int (1 : Int32)), (.int (1 : Int32))])
        refine Fin.go (fun _ k => XS.icmpNo X5.here hx rfl (hb hby at_135) rfl (XT.ii_ne_f (by decide)) k) ?_
        show Fin _ p e below s _ _ _ T5 (mkF m 138 #[.val (.int p0), .val (.int o), .val (.int ((p0 &&& (2147483647 : Int32)) % (6 : Int32))), .val (.ref aEQ), .val (.int (2 : Int32)), .val (.int (2 : Int32)), .val (.int (1 : Int32))] [])
        refine Fin.go (fun _ k => XS.iconst X5.here hx rfl (hb hby at_138) k) ?_
        show Fin _ p e below s _ _ _ T5 (mkF m 139 #[.val (.int p0), .val (.int o), .val (.int ((p0 &&& (2147483647 : Int32)) % (6 : Int32))), .val (.ref aEQ), .val (.int (2 : Int32)), .val (.int (2 : Int32)), .val (.int (1 : Int32))] [(.int (1 : Int32))])
        refine Fin.go (fun _ k => XS.goto X5.here hx rfl (pc0 := 139) (pc' := 143) rfl (hb hby at_139) (by decide) (by decide) k) ?_
        show Fin _ p e below s _ _ _ T5 (mkF m 143 #[.val (.int p0), .val (.int o), .val (.int ((p0 &&& (2147483647 : Int32)) % (6 : Int32))), .val (.ref aEQ), .val (.int (2 : Int32)), .val (.int (2 : Int32)), .val (.int (1 : Int32))] [(.int (1 : Int32))])
        exact Fin.leaveN X5 e5 hlk (v := some (.int (nar .boolean (1 : Int32)))) (fun h => by rw [hret] at h; cases h) (by decide) (by decide) ⟨rfl, N5⟩ (fun fs hr => retN X5 hx (t := .boolean) hret (by simp) (hb hby at_143) hr)
      · refine Fin.go (fun _ k => XS.ifYes X1.here hx rfl (pc0 := 101) (pc' := 110) rfl (hb hby at_101) rfl (XT.i0_ne_t c101) (by decide) (by decide) k) ?_
        show Fin _ p e below s _ _ _ T1 (mkF m 110 #[.val (.int p0), .val (.int o), .val (.int ((p0 &&& (2147483647 : Int32)) % (6 : Int32))), .val (.ref aEQ), .val (.int (2 : Int32)), .unset, .unset] [])
        refine Fin.go (fun _ k => XS.iconst X1.here hx rfl (hb hby at_110) k) ?_
        show Fin _ p e below s _ _ _ T1 (mkF m 111 #[.val (.int p0), .val (.int o), .val (.int ((p0 &&& (2147483647 : Int32)) % (6 : Int32))), .val (.ref aEQ), .val (.int (2 : Int32)), .unset, .unset] [(.int (1 : Int32))])
        refine Fin.go (fun _ k => XS.istore X1.here hx rfl (hb hby at_111) rfl (l' := #[.val (.int p0), .val (.int o), .val (.int ((p0 &&& (2147483647 : Int32)) % (6 : Int32))), .val (.ref aEQ), .val (.int (2 : Int32)), .val (.int (1 : Int32)), .unset]) rfl k) ?_
        show Fin _ p e below s _ _ _ T1 (mkF m 113 #[.val (.int p0), .val (.int o), .val (.int ((p0 &&& (2147483647 : Int32)) % (6 : Int32))), .val (.ref aEQ), .val (.int (2 : Int32)), .val (.int (1 : Int32)), .unset] [])
        refine Fin.go (fun _ k => XS.iload X1.here hx rfl (hb hby at_113) rfl k) ?_
        show Fin _ p e below s _ _ _ T1 (mkF m 115 #[.val (.int p0), .val (.int o), .val (.int ((p0 &&& (2147483647 : Int32)) % (6 : Int32))), .val (.ref aEQ), .val (.int (2 : Int32)), .val (.int (1 : Int32)), .unset] [(.int (2 : Int32))])
        refine Fin.go (fun _ k => XS.iload X1.here hx rfl (hb hby at_115) rfl k) ?_
        show Fin _ p e below s _ _ _ T1 (mkF m 117 #[.val (.int p0), .val (.int o), .val (.int ((p0 &&& (2147483647 : Int32)) % (6 : Int32))), .val (.ref aEQ), .val (.int (2 : Int32)), .val (.int (1 : Int32)), .unset] [(.int (1 : Int32)), (.int (2 : Int32))])
        refine Fin.go (fun _ k => XS.iand X1.here hx rfl (hb hby at_117) rfl k) ?_
        show Fin _ p e below s _ _ _ T1 (mkF m 118 #[.val (.int p0), .val (.int o), .val (.int ((p0 &&& (2147483647 : Int32)) % (6 : Int32))), .val (.ref aEQ), .val (.int (2 : Int32)), .val (.int (1 : Int32)), .unset] [(.int ((2 : Int32) &&& (1 : Int32)))])
        refine Fin.go (fun _ k => XS.ifYes X1.here hx rfl (pc0 := 118) (pc' := 125) rfl (hb hby at_118) rfl (XT.i0_eq_t (by decide)) (by decide) (by decide) k) ?_
        show Fin _ p e below s _ _ _ T1 (mkF m 125 #[.val (.int p0), .val (.int o), .val (.int ((p0 &&& (2147483647 : Int32)) % (6 : Int32))), .val (.ref aEQ), .val (.int (2 : Int32)), .val (.int (1 : Int32)), .unset] [])
        refine Fin.go (fun _ k => XS.iconst X1.here hx rfl (hb hby at_125) k) ?_
        show Fin _ p e below s _ _ _ T1 (mkF m 126 #[.val (.int p0), .val (.int o), .val (.int ((p0 &&& (2147483647 : Int32)) % (6 : Int32))), .val (.ref aEQ), .val (.int (2 : Int32)), .val (.int (1 : Int32)), .unset] [(.int (0 : Int32))])
        refine Fin.go (fun _ k => XS.istore X1.here hx rfl (hb hby at_126) rfl (l' := #[.val (.int p0), .val (.int o), .val (.int ((p0 &&& (2147483647 : Int32)) % (6 : Int32))), .val (.ref aEQ), .val (.int (2 : Int32)), .val (.int (1 : Int32)), .val (.int (0 : Int32))]) rfl k) ?_
        show Fin _ p e below s _ _ _ T1 (mkF m 128 #[.val (.int p0), .val (.int o), .val (.int ((p0 &&& (2147483647 : Int32)) % (6 : Int32))), .val (.ref aEQ), .val (.int (2 : Int32)), .val (.int (1 : Int32)), .val (.int (0 : Int32))] [])
        refine Fin.go (fun _ k => XS.aloadN X1.here hx rfl (hb hby at_128) rfl rfl k) ?_
        show Fin _ p e below s _ _ _ T1 (mkF m 129 #[.val (.int p0), .val (.int o), .val (.int ((p0 &&& (2147483647 : Int32)) % (6 : Int32))), .val (.ref aEQ), .val (.int (2 : Int32)), .val (.int (1 : Int32)), .val (.int (0 : Int32))] [(.ref aEQ)])
        refine Fin.go (fun _ k => XS.iloadN X1.here hx rfl (hb hby at_129) rfl k) ?_
        show Fin _ p e below s _ _ _ T1 (mkF m 130 #[.val (.int p0), .val (.int o), .val (.int ((p0 &&& (2147483647 : Int32)) % (6 : Int32))), .val (.ref aEQ), .val (.int (2 : Int32)), .val (.int (1 : Int32)), .val (.int (0 : Int32))] [(.int o), (.ref aEQ)])
        have r6 := rmH0 l Z a0 hw n0 h0 O aEQ o (A_aEQ.ext O.2) (F_aEQ.ext O.2)
        rw [sg_p c91 c101] at r6
        obtain ⟨v7, T7, L7, X7, q7, st7⟩ := callVt X1 hx hZ (y := (⟨"com/example/grantwell/grantwell/catalog/Condition$Operator", "holdsFor", "(I)Z"⟩ : MethodName)) hown (hw _ w_4) (hw _ w_5) (hw _ w_7) (hw _ w_6) (hw _ w_2) (hw _ w_8) (by decide) (W := 0) (r6) e1 (A_aEQ.ext O.2) (by decide) (by decide) (by decide) (by decide) (g := (mkF m 130 #[.val (.int p0), .val (.int o), .val (.int ((p0 &&& (2147483647 : Int32)) % (6 : Int32))), .val (.ref aEQ), .val (.int (2 : Int32)), .val (.int (1 : Int32)), .val (.int (0 : Int32))] [(.int o), (.ref aEQ)])) rfl (by rw [hml]; rfl) (argsL := [(.int o)]) (rest := []) (lenOf pd_oIcZ rfl) rfl (by show 2 * 0 + _ ≤ _; exact Nat.le_of_eq rfl) (hb hby at_130)
        obtain ⟨rfl, e7, rfl⟩ := q7
        have N7 := Fr.app N0 (Fr.nil n0)
        refine Fin.go st7 ?_
        show Fin _ p e below s _ _ _ T7 (mkF m 133 #[.val (.int p0), .val (.int o), .val (.int ((p0 &&& (2147483647 : Int32)) % (6 : Int32))), .val (.ref aEQ), .val (.int (2 : Int32)), .val (.int (1 : Int32)), .val (.int (0 : Int32))] [(.int (0 : Int32))])
        refine Fin.go (fun _ k => XS.iload X7.here hx rfl (hb hby at_133) rfl k) ?_
        show Fin _ p e below s _ _ _ T7 (mkF m 135 #[.val (.int p0), .val (.int o), .val (.int ((p0 &&& (2147483647 : Int32)) % (6 : Int32))), .val (.ref aEQ), .val (.int (2 : Int32)), .val (.int (1 : Int32)), .val (.int (0 : Int32))] [(.int (0 : Int32)), (.int (0 : Int32))])
        refine Fin.go (fun _ k => XS.icmpNo X7.here hx rfl (hb hby at_135) rfl (XT.ii_ne_f (by decide)) k) ?_
        show Fin _ p e below s _ _ _ T7 (mkF m 138 #[.val (.int p0), .val (.int o), .val (.int ((p0 &&& (2147483647 : Int32)) % (6 : Int32))), .val (.ref aEQ), .val (.int (2 : Int32)), .val (.int (1 : Int32)), .val (.int (0 : Int32))] [])
        refine Fin.go (fun _ k => XS.iconst X7.here hx rfl (hb hby at_138) k) ?_
        show Fin _ p e below s _ _ _ T7 (mkF m 139 #[.val (.int p0), .val (.int o), .val (.int ((p0 &&& (2147483647 : Int32)) % (6 : Int32))), .val (.ref aEQ), .val (.int (2 : Int32)), .val (.int (1 : Int32)), .val (.int (0 : Int32))] [(.int (1 : Int32))])
        refine Fin.go (fun _ k => XS.goto X7.here hx rfl (pc0 := 139) (pc' := 143) rfl (hb hby at_139) (by decide) (by decide) k) ?_
        show Fin _ p e below s _ _ _ T7 (mkF m 143 #[.val (.int p0), .val (.int o), .val (.int ((p0 &&& (2147483647 : Int32)) % (6 : Int32))), .val (.ref aEQ), .val (.int (2 : Int32)), .val (.int (1 : Int32)), .val (.int (0 : Int32))] [(.int (1 : Int32))])
        exact Fin.leaveN X7 e7 hlk (v := some (.int (nar .boolean (1 : Int32)))) (fun h => by rw [hret] at h; cases h) (by decide) (by decide) ⟨rfl, N7⟩ (fun fs hr => retN X7 hx (t := .boolean) hret (by simp) (hb hby at_143) hr)
  · refine Fin.go (fun _ k => XS.ifYes X0.here hx rfl (pc0 := 9) (pc' := 22) rfl (hb hby at_9) rfl (XT.i0_ne_t c9) (by decide) (by decide) k) ?_
    show Fin _ p e below s _ _ _ s₁ (mkF m 22 #[.val (.int p0), .val (.int o), .val (.int ((p0 &&& (2147483647 : Int32)) % (6 : Int32))), .unset, .unset, .unset, .unset] [])
    refine Fin.go (fun _ k => XS.iloadN X0.here hx rfl (hb hby at_22) rfl k) ?_
    show Fin _ p e below s _ _ _ s₁ (mkF m 23 #[.val (.int p0), .val (.int o), .val (.int ((p0 &&& (2147483647 : Int32)) % (6 : Int32))), .unset, .unset, .unset, .unset] [(.int ((p0 &&& (2147483647 : Int32)) % (6 : Int32)))])
    refine Fin.go (fun _ k => XS.iconst X0.here hx rfl (hb hby at_23) k) ?_
    show Fin _ p e below s _ _ _ s₁ (mkF m 24 #[.val (.int p0), .val (.int o), .val (.int ((p0 &&& (2147483647 : Int32)) % (6 : Int32))), .unset, .unset, .unset, .unset] [(.int (1 : Int32)), (.int ((p0 &&& (2147483647 : Int32)) % (6 : Int32)))])
    by_cases c24 : ((p0 &&& (2147483647 : Int32)) % (6 : Int32)) = (1 : Int32)
    · refine Fin.go (fun _ k => XS.icmpNo X0.here hx rfl (hb hby at_24) rfl (XT.ii_ne_f c24) k) ?_
      show Fin _ p e below s _ _ _ s₁ (mkF m 27 #[.val (.int p0), .val (.int o), .val (.int ((p0 &&& (2147483647 : Int32)) % (6 : Int32))), .unset, .unset, .unset, .unset] [])
      obtain ⟨T8, X8, e8, st8⟩ := getS2 X0 hx hZ hown (host := "") (Or.inl (hw _ w_22)) Via.refl e0 (S_aNE.ext O.2) (g := (mkF m 27 #[.val (.int p0), .val (.int o), .val (.int ((p0 &&& (2147483647 : Int32)) % (6 : Int32))), .unset, .unset, .unset, .unset] [])) rfl (hb hby at_27)
      refine Fin.go st8 ?_
      show Fin _ p e below s _ _ _ T8 (mkF m 30 #[.val (.int p0), .val (.int o), .val (.int ((p0 &&& (2147483647 : Int32)) % (6 : Int32))), .unset, .unset, .unset, .unset] [(.ref aNE)])
      refine Fin.go (fun _ k => XS.astoreN X8.here hx rfl (hb hby at_30) rfl rfl (l' := #[.val (.int p0), .val (.int o), .val (.int ((p0 &&& (2147483647 : Int32)) % (6 : Int32))), .val (.ref aNE), .unset, .unset, .unset]) rfl k) ?_
      show Fin _ p e below s _ _ _ T8 (mkF m 31 #[.val (.int p0), .val (.int o), .val (.int ((p0 &&& (2147483647 : Int32)) % (6 : Int32))), .val (.ref aNE), .unset, .unset, .unset] [])
      refine Fin.go (fun _ k => XS.iconst X8.here hx rfl (hb hby at_31) k) ?_
      show Fin _ p e below s _ _ _ T8 (mkF m 32 #[.val (.int p0), .val (.int o), .val (.int ((p0 &&& (2147483647 : Int32)) % (6 : Int32))), .val (.ref aNE), .unset, .unset, .unset] [(.int (5 : Int32))])
      refine Fin.go (fun _ k => XS.istore X8.here hx rfl (hb hby at_32) rfl (l' := #[.val (.int p0), .val (.int o), .val (.int ((p0 &&& (2147483647 : Int32)) % (6 : Int32))), .val (.ref aNE), .val (.int (5 : Int32)), .unset, .unset]) rfl k) ?_
      show Fin _ p e below s _ _ _ T8 (mkF m 34 #[.val (.int p0), .val (.int o), .val (.int ((p0 &&& (2147483647 : Int32)) % (6 : Int32))), .val (.ref aNE), .val (.int (5 : Int32)), .unset, .unset] [])
      refine Fin.go (fun _ k => XS.goto X8.here hx rfl (pc0 := 34) (pc' := 90) rfl (hb hby at_34) (by decide) (by decide) k) ?_
      show Fin _ p e below s _ _ _ T8 (mkF m 90 #[.val (.int p0), .val (.int o), .val (.int ((p0 &&& (2147483647 : Int32)) % (6 : Int32))), .val (.ref aNE), .val (.int (5 : Int32)), .unset, .unset] [])
      refine Fin.go (fun _ k => XS.iloadN X8.here hx rfl (hb hby at_90) rfl k) ?_
      show Fin _ p e below s _ _ _ T8 (mkF m 91 #[.val (.int p0), .val (.int o), .val (.int ((p0 &&& (2147483647 : Int32)) % (6 : Int32))), .val (.ref aNE), .val (.int (5 : Int32)), .unset, .unset] [(.int o)])
      by_cases c91 : o < 0
      · refine Fin.go (fun _ k => XS.ifNo X8.here hx rfl (hb hby at_91) rfl (XT.i0_ge_f c91) k) ?_
        show Fin _ p e below s _ _ _ T8 (mkF m 94 #[.val (.int p0), .val (.int o), .val (.int ((p0 &&& (2147483647 : Int32)) % (6 : Int32))), .val (.ref aNE), .val (.int (5 : Int32)), .unset, .unset] [])
        refine Fin.go (fun _ k => XS.iconst X8.here hx rfl (hb hby at_94) k) ?_
        show Fin _ p e below s _ _ _ T8 (mkF m 95 #[.val (.int p0), .val (.int o), .val (.int ((p0 &&& (2147483647 : Int32)) % (6 : Int32))), .val (.ref aNE), .val (.int (5 : Int32)), .unset, .unset] [(.int (4 : Int32))])
        refine Fin.go (fun _ k => XS.istore X8.here hx rfl (hb hby at_95) rfl (l' := #[.val (.int p0), .val (.int o), .val (.int ((p0 &&& (2147483647 : Int32)) % (6 : Int32))), .val (.ref aNE), .val (.int (5 : Int32)), .val (.int (4 : Int32)), .unset]) rfl k) ?_
        show Fin _ p e below s _ _ _ T8 (mkF m 97 #[.val (.int p0), .val (.int o), .val (.int ((p0 &&& (2147483647 : Int32)) % (6 : Int32))), .val (.ref aNE), .val (.int (5 : Int32)), .val (.int (4 : Int32)), .unset] [])
        refine Fin.go (fun _ k => XS.goto X8.here hx rfl (pc0 := 97) (pc' := 113) rfl (hb hby at_97) (by decide) (by decide) k) ?_
        show Fin _ p e below s _ _ _ T8 (mkF m 113 #[.val (.int p0), .val (.int o), .val (.int ((p0 &&& (2147483647 : Int32)) % (6 : Int32))), .val (.ref aNE), .val (.int (5 : Int32)), .val (.int (4 : Int32)), .unset] [])
        refine Fin.go (fun _ k => XS.iload X8.here hx rfl (hb hby at_113) rfl k) ?_
        show Fin _ p e below s _ _ _ T8 (mkF m 115 #[.val (.int p0), .val (.int o), .val (.int ((p0 &&& (2147483647 : Int32)) % (6 : Int32))), .val (.ref aNE), .val (.int (5 : Int32)), .val (.int (4 : Int32)), .unset] [(.int (5 : Int32))])
        refine Fin.go (fun _ k => XS.iload X8.here hx rfl (hb hby at_115) rfl k) ?_
        show Fin _ p e below s _ _ _ T8 (mkF m 117 #[.val (.int p0), .val (.int o), .val (.int ((p0 &&& (2147483647 : Int32)) % (6 : Int32))), .val (.ref aNE), .val (.int (5 : Int32)), .val (.int (4 : Int32)), .unset] [(.int (4 : Int32)), (.int (5 : Int32))])
        refine Fin.go (fun _ k => XS.iand X8.here hx rfl (hb hby at_117) rfl k) ?_
        show Fin _ p e below s _ _ _ T8 (mkF m 118 #[.val (.int p0), .val (.int o), .val (.int ((p0 &&& (2147483647 : Int32)) % (6 : Int32))), .val (.ref aNE), .val (.int (5 : Int32)), .val (.int (4 : Int32)), .unset] [(.int ((5 : Int32) &&& (4 : Int32)))])
        refine Fin.go (fun _ k => XS.ifNo X8.here hx rfl (hb hby at_118) rfl (XT.i0_eq_f (by decide)) k) ?_
        show Fin _ p e below s _ _ _ T8 (mkF m 121 #[.val (.int p0), .val (.int o), .val (.int ((p0 &&& (2147483647 : Int32)) % (6 : Int32))), .val (.ref aNE), .val (.int (5 : Int32)), .val (.int (4 : Int32)), .unset] [])
        refine Fin.go (fun _ k => XS.iconst X8.here hx rfl (hb hby at_121) k) ?_
        show Fin _ p e below s _ _ _ T8 (mkF m 122 #[.val (.int p0), .val (.int o), .val (.int ((p0 &&& (2147483647 : Int32)) % (6 : Int32))), .val (.ref aNE), .val (.int (5 : Int32)), .val (.int (4 : Int32)), .unset] [(.int (1 : Int32))])
        refine Fin.go (fun _ k => XS.goto X8.here hx rfl (pc0 := 122) (pc' := 126) rfl (hb hby at_122) (by decide) (by decide) k) ?_
        show Fin _ p e below s _ _ _ T8 (mkF m 126 #[.val (.int p0), .val (.int o), .val (.int ((p0 &&& (2147483647 : Int32)) % (6 : Int32))), .val (.ref aNE), .val (.int (5 : Int32)), .val (.int (4 : Int32)), .unset] [(.int (1 : Int32))])
        refine Fin.go (fun _ k => XS.istore X8.here hx rfl (hb hby at_126) rfl (l' := #[.val (.int p0), .val (.int o), .val (.int ((p0 &&& (2147483647 : Int32)) % (6 : Int32))), .val (.ref aNE), .val (.int (5 : Int32)), .val (.int (4 : Int32)), .val (.int (1 : Int32))]) rfl k) ?_
        show Fin _ p e below s _ _ _ T8 (mkF m 128 #[.val (.int p0), .val (.int o), .val (.int ((p0 &&& (2147483647 : Int32)) % (6 : Int32))), .val (.ref aNE), .val (.int (5 : Int32)), .val (.int (4 : Int32)), .val (.int (1 : Int32))] [])
        refine Fin.go (fun _ k => XS.aloadN X8.here hx rfl (hb hby at_128) rfl rfl k) ?_
        show Fin _ p e below s _ _ _ T8 (mkF m 129 #[.val (.int p0), .val (.int o), .val (.int ((p0 &&& (2147483647 : Int32)) % (6 : Int32))), .val (.ref aNE), .val (.int (5 : Int32)), .val (.int (4 : Int32)), .val (.int (1 : Int32))] [(.ref aNE)])
        refine Fin.go (fun _ k => XS.iloadN X8.here hx rfl (hb hby at_129) rfl k) ?_
        show Fin _ p e below s _ _ _ T8 (mkF m 130 #[.val (.int p0), .val (.int o), .val (.int ((p0 &&& (2147483647 : Int32)) % (6 : Int32))), .val (.ref aNE), .val (.int (5 : Int32)), .val (.int (4 : Int32)), .val (.int (1 : Int32))] [(.int o), (.ref aNE)])
        have r9 := rmH1 l Z a0 hw n0 h0 O aNE o (A_aNE.ext O.2) (F_aNE.ext O.2)
        rw [sg_n c91] at r9
        obtain ⟨v10, T10, L10, X10, q10, st10⟩ := callVt X8 hx hZ (y := (⟨"com/example/grantwell/grantwell/catalog/Condition$Operator", "holdsFor", "(I)Z"⟩ : MethodName)) hown (hw _ w_4) (hw _ w_5) (hw _ w_7) (hw _ w_6) (hw _ w_2) (hw _ w_8) (by decide) (W := 0) (r9) e8 (A_aNE.ext O.2) (by decide) (by decide) (by decide) (by decide) (g := (mkF m 130 #[.val (.int p0), .val (.int o), .val (.int ((p0 &&& (2147483647 : Int32)) % (6 : Int32))), .val (.ref aNE), .val (.int (5 : Int32)), .val (.int (4 : Int32)), .val (.int (1 : Int32))] [(.int o), (.ref aNE)])) rfl (by rw [hml]; rfl) (argsL := [(.int o)]) (rest := []) (lenOf pd_oIcZ rfl) rfl (by show 2 * 0 + _ ≤ _; exact Nat.le_of_eq rfl) (hb hby at_130)
        obtain ⟨rfl, e10, rfl⟩ := q10
        have N10 := Fr.app N0 (Fr.nil n0)
        refine Fin.go st10 ?_
        show Fin _ p e below s _ _ _ T10 (mkF m 133 #[.val (.int p0), .val (.int o), .val (.int ((p0 &&& (2147483647 : Int32)) % (6 : Int32))), .val (.ref aNE), .val (.int (5 : Int32)), .val (.int (4 : Int32)), .val (.int (1 : Int32))] [(.int (1 : Int32))])
        refine Fin.go (fun _ k => XS.iload X10.here hx rfl (hb hby at_133) rfl k) ?_
        show Fin _ p e below s _ _ _ T10 (mkF m 135 #[.val (.int p0), .val (.int o), .val (.int ((p0 &&& (2147483647 : Int32)) % (6 : Int32))), .val (.ref aNE), .val (.int (5 : Int32)), .val (.int (4 : Int32)), .val (.int (1 : Int32))] [(.int (1 : Int32)), (.int (1 : Int32))])
        refine Fin.go (fun _ k => XS.icmpNo X10.here hx rfl (hb hby at_135) rfl (XT.ii_ne_f (by decide)) k) ?_
        show Fin _ p e below s _ _ _ T10 (mkF m 138 #[.val (.int p0), .val (.int o), .val (.int ((p0 &&& (2147483647 : Int32)) % (6 : Int32))), .val (.ref aNE), .val (.int (5 : Int32)), .val (.int (4 : Int32)), .val (.int (1 : Int32))] [])
        refine Fin.go (fun _ k => XS.iconst X10.here hx rfl (hb hby at_138) k) ?_
        show Fin _ p e below s _ _ _ T10 (mkF m 139 #[.val (.int p0), .val (.int o), .val (.int ((p0 &&& (2147483647 : Int32)) % (6 : Int32))), .val (.ref aNE), .val (.int (5 : Int32)), .val (.int (4 : Int32)), .val (.int (1 : Int32))] [(.int (1 : Int32))])
        refine Fin.go (fun _ k => XS.goto X10.here hx rfl (pc0 := 139) (pc' := 143) rfl (hb hby at_139) (by decide) (by decide) k) ?_
        show Fin _ p e below s _ _ _ T10 (mkF m 143 #[.val (.int p0), .val (.int o), .val (.int ((p0 &&& (2147483647 : Int32)) % (6 : Int32))), .val (.ref aNE), .val (.int (5 : Int32)), .val (.int (4 : Int32)), .val (.int (1 : Int32))] [(.int (1 : Int32))])
        exact Fin.leaveN X10 e10 hlk (v := some (.int (nar .boolean (1 : Int32)))) (fun h => by rw [hret] at h; cases h) (by decide) (by decide) ⟨rfl, N10⟩ (fun fs hr => retN X10 hx (t := .boolean) hret (by simp) (hb hby at_143) hr)
      · refine Fin.go (fun _ k => XS.ifYes X8.here hx rfl (pc0 := 91) (pc' := 100) rfl (hb hby at_91) rfl (XT.i0_ge_t c91) (by decide) (by decide) k) ?_
        show Fin _ p e below s _ _ _ T8 (mkF m 100 #[.val (.int p0), .val (.int o), .val (.int ((p0 &&& (2147483647 : Int32)) % (6 : Int32))), .val (.ref aNE), .val (.int (5 : Int32)), .unset, .unset] [])
        refine Fin.go (fun _ k => XS.iloadN X8.here hx rfl (hb hby at_100) rfl k) ?_
        show Fin _ p e below s _ _ _ T8 (mkF m 101 #[.val (.int p0), .val (.int o), .val (.int ((p0 &&& (2147483647 : Int32)) % (6 : Int32))), .val (.ref aNE), .val (.int (5 : Int32)), .unset, .unset] [(.int o)])
        by_cases c101 : o = 0
        · refine Fin.go (fun _ k => XS.ifNo X8.here hx rfl (hb hby at_101) rfl (XT.i0_ne_f c101) k) ?_
          show Fin _ p e below s _ _ _ T8 (mkF m 104 #[.val (.int p0), .val (.int o), .val (.int ((p0 &&& (2147483647 : Int32)) % (6 : Int32))), .val (.ref aNE), .val (.int (5 : Int32)), .unset, .unset] [])
          refine Fin.go (fun _ k => XS.iconst X8.here hx rfl (hb hby at_104) k) ?_
          show Fin _ p e below s _ _ _ T8 (mkF m 105 #[.val (.int p0), .val (.int o), .val (.int ((p0 &&& (2147483647 : Int32)) % (6 : Int32))), .val (.ref aNE), .val (.int (5 : Int32)), .unset, .unset] [(.int (2 : Int32))])
          refine Fin.go (fun _ k => XS.istore X8.here hx rfl (hb hby at_105) rfl (l' := #[.val (.int p0), .val (.int o), .val (.int ((p0 &&& (2147483647 : Int32)) % (6 : Int32))), .val (.ref aNE), .val (.int (5 : Int32)), .val (.int (2 : Int32)), .unset]) rfl k) ?_
          show Fin _ p e below s _ _ _ T8 (mkF m 107 #[.val (.int p0), .val (.int o), .val (.int ((p0 &&& (2147483647 : Int32)) % (6 : Int32))), .val (.ref aNE), .val (.int (5 : Int32)), .val (.int (2 : Int32)), .unset] [])
          refine Fin.go (fun _ k => XS.goto X8.here hx rfl (pc0 := 107) (pc' := 113) rfl (hb hby at_107) (by decide) (by decide) k) ?_
          show Fin _ p e below s _ _ _ T8 (mkF m 113 #[.val (.int p0), .val (.int o), .val (.int ((p0 &&& (2147483647 : Int32)) % (6 : Int32))), .val (.ref aNE), .val (.int (5 : Int32)), .val (.int (2 : Int32)), .unset] [])
          refine Fin.go (fun _ k => XS.iload X8.here hx rfl (hb hby at_113) rfl k) ?_
          show Fin _ p e below s _ _ _ T8 (mkF m 115 #[.val (.int p0), .val (.int o), .val (.int ((p0 &&& (2147483647 : Int32)) % (6 : Int32))), .val (.ref aNE), .val (.int (5 : Int32)), .val (.int (2 : Int32)), .unset] [(.int (5 : Int32))])
          refine Fin.go (fun _ k => XS.iload X8.here hx rfl (hb hby at_115) rfl k) ?_
          show Fin _ p e below s _ _ _ T8 (mkF m 117 #[.val (.int p0), .val (.int o), .val (.int ((p0 &&& (2147483647 : Int32)) % (6 : Int32))), .val (.ref aNE), .val (.int (5 : Int32)), .val (.int (2 : Int32)), .unset] [(.int (2 : Int32)), (.int (5 : Int32))])
          refine Fin.go (fun _ k => XS.iand X8.here hx rfl (hb hby at_117) rfl k) ?_
          show Fin _ p e below s _ _ _ T8 (mkF m 118 #[.val (.int p0), .val (.int o), .val (.int ((p0 &&& (2147483647 : Int32)) % (6 : Int32))), .val (.ref aNE), .val (.int (5 : Int32)), .val (.int (2 : Int32)), .unset] [(.int ((5 : Int32) &&& (2 : Int32)))])
          refine Fin.go (fun _ k => XS.ifYes X8.here hx rfl (pc0 := 118) (pc' := 125) rfl (hb hby at_118) rfl (XT.i0_eq_t (by decide)) (by decide) (by decide) k) ?_
          show Fin _ p e below s _ _ _ T8 (mkF m 125 #[.val (.int p0), .val (.int o), .val (.int ((p0 &&& (2147483647 : Int32)) % (6 : Int32))), .val (.ref aNE), .val (.int (5 : Int32)), .val (.int (2 : Int32)), .unset] [])
          refine Fin.go (fun _ k => XS.iconst X8.here hx rfl (hb hby at_125) k) ?_
          show Fin _ p e below s _ _ _ T8 (mkF m 126 #[.val (.int p0), .val (.int o), .val (.int ((p0 &&& (2147483647 : Int32)) % (6 : Int32))), .val (.ref aNE), .val (.int (5 : Int32)), .val (.int (2 : Int32)), .unset] [(.int (0 : Int32))])
          refine Fin.go (fun _ k => XS.istore X8.here hx rfl (hb hby at_126) rfl (l' := #[.val (.int p0), .val (.int o), .val (.int ((p0 &&& (2147483647 : Int32)) % (6 : Int32))), .val (.ref aNE), .val (.int (5 : Int32)), .val (.int (2 : Int32)), .val (.int (0 : Int32))]) rfl k) ?_
          show Fin _ p e below s _ _ _ T8 (mkF m 128 #[.val (.int p0), .val (.int o), .val (.int ((p0 &&& (2147483647 : Int32)) % (6 : Int32))), .val (.ref aNE), .val (.int (5 : Int32)), .val (.int (2 : Int32)), .val (.int (0 : Int32))] [])
          refine Fin.go (fun _ k => XS.aloadN X8.here hx rfl (hb hby at_128) rfl rfl k) ?_
          show Fin _ p e below s _ _ _ T8 (mkF m 129 #[.val (.int p0), .val (.int o), .val (.int ((p0 &&& (2147483647 : Int32)) % (6 : Int32))), .val (.ref aNE), .val (.int (5 : Int32)), .val (.int (2 : Int32)), .val (.int (0 : Int32))] [(.ref aNE)])
          refine Fin.go (fun _ k => XS.iloadN X8.here hx rfl (hb hby at_129) rfl k) ?_
          show Fin _ p e below s _ _ _ T8 (mkF m 130 #[.val (.int p0), .val (.int o), .val (.int ((p0 &&& (2147483647 : Int32)) % (6 : Int32))), .val (.ref aNE), .val (.int (5 : Int32)), .val (.int (2 : Int32)), .val (.int (0 : Int32))] [(.int o), (.ref aNE)])
          have r11 := rmH1 l Z a0 hw n0 h0 O aNE o (A_aNE.ext O.2) (F_aNE.ext O.2)
          rw [sg_z c91 c101] at r11
          obtain ⟨v12, T12, L12, X12, q12, st12⟩ := callVt X8 hx hZ (y := (⟨"com/example/grantwell/grantwell/catalog/Condition$Operator", "holdsFor", "(I)Z"⟩ : MethodName)) hown (hw _ w_4) (hw _ w_5) (hw _ w_7) (hw _ w_6) (hw _ w_2) (hw _ w_8) (by decide) (W := 0) (r11) e8 (A_aNE.ext O.2) (by decide) (by decide) (by decide) (by decide) (g := (mkF m 130 #[.val (.int p0), .val (.int o), .val (.int ((p0 &&& (2147483647 : Int32)) % (6 : Int32))), .val (.ref aNE), .val (.int (5 : Int32)), .val (.int (2 : Int32)), .val (.int (0 : Int32))] [(.int o), (.ref aNE)])) rfl (by rw [hml]; rfl) (argsL := [(.int o)]) (rest := []) (lenOf pd_oIcZ rfl) rfl (by show 2 * 0 + _ ≤ _; exact Nat.le_of_eq rfl) (hb hby at_130)
          obtain ⟨rfl, e12, rfl⟩ := q12
          have N12 := Fr.app N0 (Fr.nil n0)
          refine Fin.go st12 ?_
          show Fin _ p e below s _ _ _ T12 (mkF m 133 #[.val (.int p0), .val (.int o), .val (.int ((p0 &&& (2147483647 : Int32)) % (6 : Int32))), .val (.ref aNE), .val (.int (5 : Int32)), .val (.int (2 : Int32)), .val (.int (0 : Int32))] [(.int (0 : Int32))])
          refine Fin.go (fun _ k => XS.iload X12.here hx rfl (hb hby at_133) rfl k) ?_
          show Fin _ p e below s _ _ _ T12 (mkF m 135 #[.val (.int p0), .val (.int o), .val (.int ((p0 &&& (2147483647 : Int32)) % (6 : Int32))), .val (.ref aNE), .val (.int (5 : Int32)), .val (.int (2 : Int32)), .val (.int (0 : Int32))] [(.int (0 : Int32)), (.int (0 : Int32))])
          refine Fin.go (fun _ k => XS.icmpNo X12.here hx rfl (hb hby at_135) rfl (XT.ii_ne_f (by decide)) k) ?_
          show Fin _ p e below s _ _ _ T12 (mkF m 138 #[.val (.int p0), .val (.int o), .val (.int ((p0 &&& (2147483647 : Int32)) % (6 : Int32))), .val (.ref aNE), .val (.int (5 : Int32)), .val (.int (2 : Int32)), .val (.int (0 : Int32))] [])
          refine Fin.go (fun _ k => XS.iconst X12.here hx rfl (hb hby at_138) k) ?_
          show Fin _ p e below s _ _ _ T12 (mkF m 139 #[.val (.int p0), .val (.int o), .val (.int ((p0 &&& (2147483647 : Int32)) % (6 : Int32))), .val (.ref aNE), .val (.int (5 : Int32)), .val (.int (2 : Int32)), .val (.int (0 : Int32))] [(.int (1 : Int32))])
          refine Fin.go (fun _ k => XS.goto X12.here hx rfl (pc0 := 139) (pc' := 143) rfl (hb hby at_139) (by decide) (by decide) k) ?_
          show Fin _ p e below s _ _ _ T12 (mkF m 143 #[.val (.int p0), .val (.int o), .val (.int ((p0 &&& (2147483647 : Int32)) % (6 : Int32))), .val (.ref aNE), .val (.int (5 : Int32)), .val (.int (2 : Int32)), .val (.int (0 : Int32))] [(.int (1 : Int32))])
          exact Fin.leaveN X12 e12 hlk (v := some (.int (nar .boolean (1 : Int32)))) (fun h => by rw [hret] at h; cases h) (by decide) (by decide) ⟨rfl, N12⟩ (fun fs hr => retN X12 hx (t := .boolean) hret (by simp) (hb hby at_143) hr)
        · refine Fin.go (fun _ k => XS.ifYes X8.here hx rfl (pc0 := 101) (pc' := 110) rfl (hb hby at_101) rfl (XT.i0_ne_t c101) (by decide) (by decide) k) ?_
          show Fin _ p e below s _ _ _ T8 (mkF m 110 #[.val (.int p0), .val (.int o), .val (.int ((p0 &&& (2147483647 : Int32)) % (6 : Int32))), .val (.ref aNE), .val (.int (5 : Int32)), .unset, .unset] [])
          refine Fin.go (fun _ k => XS.iconst X8.here hx rfl (hb hby at_110) k) ?_
          show Fin _ p e below s _ _ _ T8 (mkF m 111 #[.val (.int p0), .val (.int o), .val (.int ((p0 &&& (2147483647 : Int32)) % (6 : Int32))), .val (.ref aNE), .val (.int (5 : Int32)), .unset, .unset] [(.int (1 : Int32))])
          refine Fin.go (fun _ k => XS.istore X8.here hx rfl (hb hby at_111) rfl (l' := #[.val (.int p0), .val (.int o), .val (.int ((p0 &&& (2147483647 : Int32)) % (6 : Int32))), .val (.ref aNE), .val (.int (5 : Int32)), .val (.int (1 : Int32)), .unset]) rfl k) ?_
          show Fin _ p e below s _ _ _ T8 (mkF m 113 #[.val (.int p0), .val (.int o), .val (.int ((p0 &&& (2147483647 : Int32)) % (6 : Int32))), .val (.ref aNE), .val (.int (5 : Int32)), .val (.int (1 : Int32)), .unset] [])
          refine Fin.go (fun _ k => XS.iload X8.here hx rfl (hb hby at_113) rfl k) ?_
          show Fin _ p e below s _ _ _ T8 (mkF m 115 #[.val (.int p0), .val (.int o), .val (.int ((p0 &&& (2147483647 : Int32)) % (6 : Int32))), .val (.ref aNE), .val (.int (5 : Int32)), .val (.int (1 : Int32)), .unset] [(.int (5 : Int32))])
          refine Fin.go (fun _ k => XS.iload X8.here hx rfl (hb hby at_115) rfl k) ?_
          show Fin _ p e below s _ _ _ T8 (mkF m 117 #[.val (.int p0), .val (.int o), .val (.int ((p0 &&& (2147483647 : Int32)) % (6 : Int32))), .val (.ref aNE), .val (.int (5 : Int32)), .val (.int (1 : Int32)), .unset] [(.int (1 : Int32)), (.int (5 : Int32))])
          refine Fin.go (fun _ k => XS.iand X8.here hx rfl (hb hby at_117) rfl k) ?_
          show Fin _ p e below s _ _ _ T8 (mkF m 118 #[.val (.int p0), .val (.int o), .val (.int ((p0 &&& (2147483647 : Int32)) % (6 : Int32))), .val (.ref aNE), .val (.int (5 : Int32)), .val (.int (1 : Int32)), .unset] [(.int ((5 : Int32) &&& (1 : Int32)))])
          refine Fin.go (fun _ k => XS.ifNo X8.here hx rfl (hb hby at_118) rfl (XT.i0_eq_f (by decide)) k) ?_
          show Fin _ p e below s _ _ _ T8 (mkF m 121 #[.val (.int p0), .val (.int o), .val (.int ((p0 &&& (2147483647 : Int32)) % (6 : Int32))), .val (.ref aNE), .val (.int (5 : Int32)), .val (.int (1 : Int32)), .unset] [])
          refine Fin.go (fun _ k => XS.iconst X8.here hx rfl (hb hby at_121) k) ?_
          show Fin _ p e below s _ _ _ T8 (mkF m 122 #[.val (.int p0), .val (.int o), .val (.int ((p0 &&& (2147483647 : Int32)) % (6 : Int32))), .val (.ref aNE), .val (.int (5 : Int32)), .val (.int (1 : Int32)), .unset] [(.int (1 : Int32))])
          refine Fin.go (fun _ k => XS.goto X8.here hx rfl (pc0 := 122) (pc' := 126) rfl (hb hby at_122) (by decide) (by decide) k) ?_
          show Fin _ p e below s _ _ _ T8 (mkF m 126 #[.val (.int p0), .val (.int o), .val (.int ((p0 &&& (2147483647 : Int32)) % (6 : Int32))), .val (.ref aNE), .val (.int (5 : Int32)), .val (.int (1 : Int32)), .unset] [(.int (1 : Int32))])
          refine Fin.go (fun _ k => XS.istore X8.here hx rfl (hb hby at_126) rfl (l' := #[.val (.int p0), .val (.int o), .val (.int ((p0 &&& (2147483647 : Int32)) % (6 : Int32))), .val (.ref aNE), .val (.int (5 : Int32)), .val (.int (1 : Int32)), .val (.int (1 : Int32))]) rfl k) ?_
          show Fin _ p e below s _ _ _ T8 (mkF m 128 #[.val (.int p0), .val (.int o), .val (.int ((p0 &&& (2147483647 : Int32)) % (6 : Int32))), .val (.ref aNE), .val (.int (5 : Int32)), .val (.int (1 : Int32)), .val (.int (1 : Int32))] [])
          refine Fin.go (fun _ k => XS.aloadN X8.here hx rfl (hb hby at_128) rfl rfl k) ?_
          show Fin _ p e below s _ _ _ T8 (mkF m 129 #[.val (.int p0), .val (.int o), .val (.int ((p0 &&& (2147483647 : Int32)) % (6 : Int32))), .val (.ref aNE), .val (.int (5 : Int32)), .val (.int (1 : Int32)), .val (.int (1 : Int32))] [(.ref aNE)])
          refine Fin.go (fun _ k => XS.iloadN X8.here hx rfl (hb hby at_129) rfl k) ?_
          show Fin _ p e below s _ _ _ T8 (mkF m 130 #[.val (.int p0), .val (.int o), .val (.int ((p0 &&& (2147483647 : Int32)) % (6 : Int32))), .val (.ref aNE), .val (.int (5 : Int32)), .val (.int (1 : Int32)), .val (.int (1 : Int32))] [(.int o), (.ref aNE)])
          have r13 := rmH1 l Z a0 hw n0 h0 O aNE o (A_aNE.ext O.2) (F_aNE.ext O.2)
          rw [sg_p c91 c101] at r13
          obtain ⟨v14, T14, L14, X14, q14, st14⟩ := callVt X8 hx hZ (y := (⟨"com/example/grantwell/grantwell/catalog/Condition$Operator", "holdsFor", "(I)Z"⟩ : MethodName)) hown (hw _ w_4) (hw _ w_5) (hw _ w_7) (hw _ w_6) (hw _ w_2) (hw _ w_8) (by decide) (W := 0) (r13) e8 (A_aNE.ext O.2) (by decide) (by decide) (by decide) (by decide) (g := (mkF m 130 #[.val (.int p0), .val (.int o), .val (.int ((p0 &&& (2147483647 : Int32)) % (6 : Int32))), .val (.ref aNE), .val (.int (5 : Int32)), .val (.int (1 : Int32)), .val (.int (1 : Int32))] [(.int o), (.ref aNE)])) rfl (by rw [hml]; rfl) (argsL := [(.int o)]) (rest := []) (lenOf pd_oIcZ rfl) rfl (by show 2 * 0 + _ ≤ _; exact Nat.le_of_eq rfl) (hb hby at_130)
          obtain ⟨rfl, e14, rfl⟩ := q14
          have N14 := Fr.app N0 (Fr.nil n0)
          refine Fin.go st14 ?_
          show Fin _ p e below s _ _ _ T14 (mkF m 133 #[.val (.int p0), .val (.int o), .val (.int ((p0 &&& (2147483647 : Int32)) % (6 : Int32))), .val (.ref aNE), .val (.int (5 : Int32)), .val (.int (1 : Int32)), .val (.int (1 : Int32))] [(.int (1 : Int32))])
          refine Fin.go (fun _ k => XS.iload X14.here hx rfl (hb hby at_133) rfl k) ?_
          show Fin _ p e below s _ _ _ T14 (mkF m 135 #[.val (.int p0), .val (.int o), .val (.int ((p0 &&& (2147483647 : Int32)) % (6 : Int32))), .val (.ref aNE), .val (.int (5 : Int32)), .val (.int (1 : Int32)), .val (.int (1 : Int32))] [(.int (1 : Int32)), (.int (1 : Int32))])
          refine Fin.go (fun _ k => XS.icmpNo X14.here hx rfl (hb hby at_135) rfl (XT.ii_ne_f (by decide)) k) ?_
          show Fin _ p e below s _ _ _ T14 (mkF m 138 #[.val (.int p0), .val (.int o), .val (.int ((p0 &&& (2147483647 : Int32)) % (6 : Int32))), .val (.ref aNE), .val (.int (5 : Int32)), .val (.int (1 : Int32)), .val (.int (1 : Int32))] [])
          refine Fin.go (fun _ k => XS.iconst X14.here hx rfl (hb hby at_138) k) ?_
          show Fin _ p e below s _ _ _ T14 (mkF m 139 #[.val (.int p0), .val (.int o), .val (.int ((p0 &&& (2147483647 : Int32)) % (6 : Int32))), .val (.ref aNE), .val (.int (5 : Int32)), .val (.int (1 : Int32)), .val (.int (1 : Int32))] [(.int (1 : Int32))])
          refine Fin.go (fun _ k => XS.goto X14.here hx rfl (pc0 := 139) (pc' := 143) rfl (hb hby at_139) (by decide) (by decide) k) ?_
          show Fin _ p e below s _ _ _ T14 (mkF m 143 #[.val (.int p0), .val (.int o), .val (.int ((p0 &&& (2147483647 : Int32)) % (6 : Int32))), .val (.ref aNE), .val (.int (5 : Int32)), .val (.int (1 : Int32)), .val (.int (1 : Int32))] [(.int (1 : Int32))])
          exact Fin.leaveN X14 e14 hlk (v := some (.int (nar .boolean (1 : Int32)))) (fun h => by rw [hret] at h; cases h) (by decide) (by decide) ⟨rfl, N14⟩ (fun fs hr => retN X14 hx (t := .boolean) hret (by simp) (hb hby at_143) hr)
    · refine Fin.go (fun _ k => XS.icmpYes X0.here hx rfl (pc0 := 24) (pc' := 37) rfl (hb hby at_24) rfl (XT.ii_ne_t c24) (by decide) (by decide) k) ?_
      show Fin _ p e below s _ _ _ s₁ (mkF m 37 #[.val (.int p0), .val (.int o), .val (.int ((p0 &&& (2147483647 : Int32)) % (6 : Int32))), .unset, .unset, .unset, .unset] [])
      refine Fin.go (fun _ k => XS.iloadN X0.here hx rfl (hb hby at_37) rfl k) ?_
      show Fin _ p e below s _ _ _ s₁ (mkF m 38 #[.val (.int p0), .val (.int o), .val (.int ((p0 &&& (2147483647 : Int32)) % (6 : Int32))), .unset, .unset, .unset, .unset] [(.int ((p0 &&& (2147483647 : Int32)) % (6 : Int32)))])
      refine Fin.go (fun _ k => XS.iconst X0.here hx rfl (hb hby at_38) k) ?_
      show Fin _ p e below s _ _ _ s₁ (mkF m 39 #[.val (.int p0), .val (.int o), .val (.int ((p0 &&& (2147483647 : Int32)) % (6 : Int32))), .unset, .unset, .unset, .unset] [(.int (2 : Int32)), (.int ((p0 &&& (2147483647 : Int32)) % (6 : Int32)))])
      by_cases c39 : ((p0 &&& (2147483647 : Int32)) % (6 : Int32)) = (2 : Int32)
      · refine Fin.go (fun _ k => XS.icmpNo X0.here hx rfl (hb hby at_39) rfl (XT.ii_ne_f c39) k) ?_
        show Fin _ p e below s _ _ _ s₁ (mkF m 42 #[.val (.int p0), .val (.int o), .val (.int ((p0 &&& (2147483647 : Int32)) % (6 : Int32))), .unset, .unset, .unset, .unset] [])
        obtain ⟨T15, X15, e15, st15⟩ := getS2 X0 hx hZ hown (host := "") (Or.inl (hw _ w_18)) Via.refl e0 (S_aLT.ext O.2) (g := (mkF m 42 #[.val (.int p0), .val (.int o), .val (.int ((p0 &&& (2147483647 : Int32)) % (6 : Int32))), .unset, .unset, .unset, .unset] [])) rfl (hb hby at_42)
        refine Fin.go st15 ?_
        show Fin _ p e below s _ _ _ T15 (mkF m 45 #[.val (.int p0), .val (.int o), .val (.int ((p0 &&& (2147483647 : Int32)) % (6 : Int32))), .unset, .unset, .unset, .unset] [(.ref aLT)])
        refine Fin.go (fun _ k => XS.astoreN X15.here hx rfl (hb hby at_45) rfl rfl (l' := #[.val (.int p0), .val (.int o), .val (.int ((p0 &&& (2147483647 : Int32)) % (6 : Int32))), .val (.ref aLT), .unset, .unset, .unset]) rfl k) ?_
        show Fin _ p e below s _ _ _ T15 (mkF m 46 #[.val (.int p0), .val (.int o), .val (.int ((p0 &&& (2147483647 : Int32)) % (6 : Int32))), .val (.ref aLT), .unset, .unset, .unset] [])
        refine Fin.go (fun _ k => XS.iconst X15.here hx rfl (hb hby at_46) k) ?_
        show Fin _ p e below s _ _ _ T15 (mkF m 47 #[.val (.int p0), .val (.int o), .val (.int ((p0 &&& (2147483647 : Int32)) % (6 : Int32))), .val (.ref aLT), .unset, .unset, .unset] [(.int (4 : Int32))])
        refine Fin.go (fun _ k => XS.istore X15.here hx rfl (hb hby at_47) rfl (l' := #[.val (.int p0), .val (.int o), .val (.int ((p0 &&& (2147483647 : Int32)) % (6 : Int32))), .val (.ref aLT), .val (.int (4 : Int32)), .unset, .unset]) rfl k) ?_
        show Fin _ p e below s _ _ _ T15 (mkF m 49 #[.val (.int p0), .val (.int o), .val (.int ((p0 &&& (2147483647 : Int32)) % (6 : Int32))), .val (.ref aLT), .val (.int (4 : Int32)), .unset, .unset] [])
        refine Fin.go (fun _ k => XS.goto X15.here hx rfl (pc0 := 49) (pc' := 90) rfl (hb hby at_49) (by decide) (by decide) k) ?_
        show Fin _ p e below s _ _ _ T15 (mkF m 90 #[.val (.int p0), .val (.int o), .val (.int ((p0 &&& (2147483647 : Int32)) % (6 : Int32))), .val (.ref aLT), .val (.int (4 : Int32)), .unset, .unset] [])
        refine Fin.go (fun _ k => XS.iloadN X15.here hx rfl (hb hby at_90) rfl k) ?_
        show Fin _ p e below s _ _ _ T15 (mkF m 91 #[.val (.int p0), .val (.int o), .val (.int ((p0 &&& (2147483647 : Int32)) % (6 : Int32))), .val (.ref aLT), .val (.int (4 : Int32)), .unset, .unset] [(.int o)])
        by_cases c91 : o < 0
        · refine Fin.go (fun _ k => XS.ifNo X15.here hx rfl (hb hby at_91) rfl (XT.i0_ge_f c91) k) ?_
          show Fin _ p e below s _ _ _ T15 (mkF m 94 #[.val (.int p0), .val (.int o), .val (.int ((p0 &&& (2147483647 : Int32)) % (6 : Int32))), .val (.ref aLT), .val (.int (4 : Int32)), .unset, .unset] [])
          refine Fin.go (fun _ k => XS.iconst X15.here hx rfl (hb hby at_94) k) ?_
          show Fin _ p e below s _ _ _ T15 (mkF m 95 #[.val (.int p0), .val (.int o), .val (.int ((p0 &&& (2147483647 : Int32)) % (6 : Int32))), .val (.ref aLT), .val (.int (4 : Int32)), .unset, .unset] [(.int (4 : Int32))])
          refine Fin.go (fun _ k => XS.istore X15.here hx rfl (hb hby at_95) rfl (l' := #[.val (.int p0), .val (.int o), .val (.int ((p0 &&& (2147483647 : Int32)) % (6 : Int32))), .val (.ref aLT), .val (.int (4 : Int32)), .val (.int (4 : Int32)), .unset]) rfl k) ?_
          show Fin _ p e below s _ _ _ T15 (mkF m 97 #[.val (.int p0), .val (.int o), .val (.int ((p0 &&& (2147483647 : Int32)) % (6 : Int32))), .val (.ref aLT), .val (.int (4 : Int32)), .val (.int (4 : Int32)), .unset] [])
          refine Fin.go (fun _ k => XS.goto X15.here hx rfl (pc0 := 97) (pc' := 113) rfl (hb hby at_97) (by decide) (by decide) k) ?_
          show Fin _ p e below s _ _ _ T15 (mkF m 113 #[.val (.int p0), .val (.int o), .val (.int ((p0 &&& (2147483647 : Int32)) % (6 : Int32))), .val (.ref aLT), .val (.int (4 : Int32)), .val (.int (4 : Int32)), .unset] [])
          refine Fin.go (fun _ k => XS.iload X15.here hx rfl (hb hby at_113) rfl k) ?_
          show Fin _ p e below s _ _ _ T15 (mkF m 115 #[.val (.int p0), .val (.int o), .val (.int ((p0 &&& (2147483647 : Int32)) % (6 : Int32))), .val (.ref aLT), .val (.int (4 : Int32)), .val (.int (4 : Int32)), .unset] [(.int (4 : Int32))])
          refine Fin.go (fun _ k => XS.iload X15.here hx rfl (hb hby at_115) rfl k) ?_
          show Fin _ p e below s _ _ _ T15 (mkF m 117 #[.val (.int p0), .val (.int o), .val (.int ((p0 &&& (2147483647 : Int32)) % (6 : Int32))), .val (.ref aLT), .val (.int (4 : Int32)), .val (.int (4 : Int32)), .unset] [(.int (4 : Int32)), (.int (4 : Int32))])
          refine Fin.go (fun _ k => XS.iand X15.here hx rfl (hb hby at_117) rfl k) ?_
          show Fin _ p e below s _ _ _ T15 (mkF m 118 #[.val (.int p0), .val (.int o), .val (.int ((p0 &&& (2147483647 : Int32)) % (6 : Int32))), .val (.ref aLT), .val (.int (4 : Int32)), .val (.int (4 : Int32)), .unset] [(.int ((4 : Int32) &&& (4 : Int32)))])
          refine Fin.go (fun _ k => XS.ifNo X15.here hx rfl (hb hby at_118) rfl (XT.i0_eq_f (by decide)) k) ?_
          show Fin _ p e below s _ _ _ T15 (mkF m 121 #[.val (.int p0), .val (.int o), .val (.int ((p0 &&& (2147483647 : Int32)) % (6 : Int32))), .val (.ref aLT), .val (.int (4 : Int32)), .val (.int (4 : Int32)), .unset] [])
          refine Fin.go (fun _ k => XS.iconst X15.here hx rfl (hb hby at_121) k) ?_
          show Fin _ p e below s _ _ _ T15 (mkF m 122 #[.val (.int p0), .val (.int o), .val (.int ((p0 &&& (2147483647 : Int32)) % (6 : Int32))), .val (.ref aLT), .val (.int (4 : Int32)), .val (.int (4 : Int32)), .unset] [(.int (1 : Int32))])
          refine Fin.go (fun _ k => XS.goto X15.here hx rfl (pc0 := 122) (pc' := 126) rfl (hb hby at_122) (by decide) (by decide) k) ?_
          show Fin _ p e below s _ _ _ T15 (mkF m 126 #[.val (.int p0), .val (.int o), .val (.int ((p0 &&& (2147483647 : Int32)) % (6 : Int32))), .val (.ref aLT), .val (.int (4 : Int32)), .val (.int (4 : Int32)), .unset] [(.int (1 : Int32))])
          refine Fin.go (fun _ k => XS.istore X15.here hx rfl (hb hby at_126) rfl (l' := #[.val (.int p0), .val (.int o), .val (.int ((p0 &&& (2147483647 : Int32)) % (6 : Int32))), .val (.ref aLT), .val (.int (4 : Int32)), .val (.int (4 : Int32)), .val (.int (1 : Int32))]) rfl k) ?_
          show Fin _ p e below s _ _ _ T15 (mkF m 128 #[.val (.int p0), .val (.int o), .val (.int ((p0 &&& (2147483647 : Int32)) % (6 : Int32))), .val (.ref aLT), .val (.int (4 : Int32)), .val (.int (4 : Int32)), .val (.int (1 : Int32))] [])
          refine Fin.go (fun _ k => XS.aloadN X15.here hx rfl (hb hby at_128) rfl rfl k) ?_
          show Fin _ p e below s _ _ _ T15 (mkF m 129 #[.val (.int p0), .val (.int o), .val (.int ((p0 &&& (2147483647 : Int32)) % (6 : Int32))), .val (.ref aLT), .val (.int (4 : Int32)), .val (.int (4 : Int32)), .val (.int (1 : Int32))] [(.ref aLT)])
          refine Fin.go (fun _ k => XS.iloadN X15.here hx rfl (hb hby at_129) rfl k) ?_
          show Fin _ p e below s _ _ _ T15 (mkF m 130 #[.val (.int p0), .val (.int o), .val (.int ((p0 &&& (2147483647 : Int32)) % (6 : Int32))), .val (.ref aLT), .val (.int (4 : Int32)), .val (.int (4 : Int32)), .val (.int (1 : Int32))] [(.int o), (.ref aLT)])
          have r16 := rmH2 l Z a0 hw n0 h0 O aLT o (A_aLT.ext O.2) (F_aLT.ext O.2)
          rw [sg_n c91] at r16
          obtain ⟨v17, T17, L17, X17, q17, st17⟩ := callVt X15 hx hZ (y := (⟨"com/example/grantwell/grantwell/catalog/Condition$Operator", "holdsFor", "(I)Z"⟩ : MethodName)) hown (hw _ w_4) (hw _ w_5) (hw _ w_7) (hw _ w_6) (hw _ w_2) (hw _ w_8) (by decide) (W := 0) (r16) e15 (A_aLT.ext O.2) (by decide) (by decide) (by decide) (by decide) (g := (mkF m 130 #[.val (.int p0), .val (.int o), .val (.int ((p0 &&& (2147483647 : Int32)) % (6 : Int32))), .val (.ref aLT), .val (.int (4 : Int32)), .val (.int (4 : Int32)), .val (.int (1 : Int32))] [(.int o), (.ref aLT)])) rfl (by rw [hml]; rfl) (argsL := [(.int o)]) (rest := []) (lenOf pd_oIcZ rfl) rfl (by show 2 * 0 + _ ≤ _; exact Nat.le_of_eq rfl) (hb hby at_130)
          obtain ⟨rfl, e17, rfl⟩ := q17
          have N17 := Fr.app N0 (Fr.nil n0)
          refine Fin.go st17 ?_
          show Fin _ p e below s _ _ _ T17 (mkF m 133 #[.val (.int p0), .val (.int o), .val (.int ((p0 &&& (2147483647 : Int32)) % (6 : Int32))), .val (.ref aLT), .val (.int (4 : Int32)), .val (.int (4 : Int32)), .val (.int (1 : Int32))] [(.int (1 : Int32))])
          refine Fin.go (fun _ k => XS.iload X17.here hx rfl (hb hby at_133) rfl k) ?_
          show Fin _ p e below s _ _ _ T17 (mkF m 135 #[.val (.int p0), .val (.int o), .val (.int ((p0 &&& (2147483647 : Int32)) % (6 : Int32))), .val (.ref aLT), .val (.int (4 : Int32)), .val (.int (4 : Int32)), .val (.int (1 : Int32))] [(.int (1 : Int32)), (.int (1 : Int32))])
          refine Fin.go (fun _ k => XS.icmpNo X17.here hx rfl (hb hby at_135) rfl (XT.ii_ne_f (by decide)) k) ?_
          show Fin _ p e below s _ _ _ T17 (mkF m 138 #[.val (.int p0), .val (.int o), .val (.int ((p0 &&& (2147483647 : Int32)) % (6 : Int32))), .val (.ref aLT), .val (.int (4 : Int32)), .val (.int (4 : Int32)), .val (.int (1 : Int32))] [])
          refine Fin.go (fun _ k => XS.iconst X17.here hx rfl (hb hby at_138) k) ?_
          show Fin _ p e below s _ _ _ T17 (mkF m 139 #[.val (.int p0), .val (.int o), .val (.int ((p0 &&& (2147483647 : Int32)) % (6 : Int32))), .val (.ref aLT), .val (.int (4 : Int32)), .val (.int (4 : Int32)), .val (.int (1 : Int32))] [(.int (1 : Int32))])
          refine Fin.go (fun _ k => XS.goto X17.here hx rfl (pc0 := 139) (pc' := 143) rfl (hb hby at_139) (by decide) (by decide) k) ?_
          show Fin _ p e below s _ _ _ T17 (mkF m 143 #[.val (.int p0), .val (.int o), .val (.int ((p0 &&& (2147483647 : Int32)) % (6 : Int32))), .val (.ref aLT), .val (.int (4 : Int32)), .val (.int (4 : Int32)), .val (.int (1 : Int32))] [(.int (1 : Int32))])
          exact Fin.leaveN X17 e17 hlk (v := some (.int (nar .boolean (1 : Int32)))) (fun h => by rw [hret] at h; cases h) (by decide) (by decide) ⟨rfl, N17⟩ (fun fs hr => retN X17 hx (t := .boolean) hret (by simp) (hb hby at_143) hr)
        · refine Fin.go (fun _ k => XS.ifYes X15.here hx rfl (pc0 := 91) (pc' := 100) rfl (hb hby at_91) rfl (XT.i0_ge_t c91) (by decide) (by decide) k) ?_
          show Fin _ p e below s _ _ _ T15 (mkF m 100 #[.val (.int p0), .val (.int o), .val (.int ((p0 &&& (2147483647 : Int32)) % (6 : Int32))), .val (.ref aLT), .val (.int (4 : Int32)), .unset, .unset] [])
          refine Fin.go (fun _ k => XS.iloadN X15.here hx rfl (hb hby at_100) rfl k) ?_
          show Fin _ p e below s _ _ _ T15 (mkF m 101 #[.val (.int p0), .val (.int o), .val (.int ((p0 &&& (2147483647 : Int32)) % (6 : Int32))), .val (.ref aLT), .val (.int (4 : Int32)), .unset, .unset] [(.int o)])
          by_cases c101 : o = 0
          · refine Fin.go (fun _ k => XS.ifNo X15.here hx rfl (hb hby at_101) rfl (XT.i0_ne_f c101) k) ?_
            show Fin _ p e below s _ _ _ T15 (mkF m 104 #[.val (.int p0), .val (.int o), .val (.int ((p0 &&& (2147483647 : Int32)) % (6 : Int32))), .val (.ref aLT), .val (.int (4 : Int32)), .unset, .unset] [])
            refine Fin.go (fun _ k => XS.iconst X15.here hx rfl (hb hby at_104) k) ?_
            show Fin _ p e below s _ _ _ T15 (mkF m 105 #[.val (.int p0), .val (.int o), .val (.int ((p0 &&& (2147483647 : Int32)) % (6 : Int32))), .val (.ref aLT), .val (.int (4 : Int32)), .unset, .unset] [(.int (2 : Int32))])
            refine Fin.go (fun _ k => XS.istore X15.here hx rfl (hb hby at_105) rfl (l' := #[.val (.int p0), .val (.int o), .val (.int ((p0 &&& (2147483647 : Int32)) % (6 : Int32))), .val (.ref aLT), .val (.int (4 : Int32)), .val (.int (2 : Int32)), .unset]) rfl k) ?_
            show Fin _ p e below s _ _ _ T15 (mkF m 107 #[.val (.int p0), .val (.int o), .val (.int ((p0 &&& (2147483647 : Int32)) % (6 : Int32))), .val (.ref aLT), .val (.int (4 : Int32)), .val (.int (2 : Int32)), .unset] [])
            refine Fin.go (fun _ k => XS.goto X15.here hx rfl (pc0 := 107) (pc' := 113) rfl (hb hby at_107) (by decide) (by decide) k) ?_
            show Fin _ p e below s _ _ _ T15 (mkF m 113 #[.val (.int p0), .val (.int o), .val (.int ((p0 &&& (2147483647 : Int32)) % (6 : Int32))), .val (.ref aLT), .val (.int (4 : Int32)), .val (.int (2 : Int32)), .unset] [])
            refine Fin.go (fun _ k => XS.iload X15.here hx rfl (hb hby at_113) rfl k) ?_
            show Fin _ p e below s _ _ _ T15 (mkF m 115 #[.val (.int p0), .val (.int o), .val (.int ((p0 &&& (2147483647 : Int32)) % (6 : Int32))), .val (.ref aLT), .val (.int (4 : Int32)), .val (.int (2 : Int32)), .unset] [(.int (4 : Int32))])
            refine Fin.go (fun _ k => XS.iload X15.here hx rfl (hb hby at_115) rfl k) ?_
            show Fin _ p e below s _ _ _ T15 (mkF m 117 #[.val (.int p0), .val (.int o), .val (.int ((p0 &&& (2147483647 : Int32)) % (6 : Int32))), .val (.ref aLT), .val (.int (4 : Int32)), .val (.int (2 : Int32)), .unset] [(.int (2 : Int32)), (.int (4 : Int32))])
            refine Fin.go (fun _ k => XS.iand X15.here hx rfl (hb hby at_117) rfl k) ?_
            show Fin _ p e below s _ _ _ T15 (mkF m 118 #[.val (.int p0), .val (.int o), .val (.int ((p0 &&& (2147483647 : Int32)) % (6 : Int32))), .val (.ref aLT), .val (.int (4 : Int32)), .val (.int (2 : Int32)), .unset] [(.int ((4 : Int32) &&& (2 : Int32)))])
            refine Fin.go (fun _ k => XS.ifYes X15.here hx rfl (pc0 := 118) (pc' := 125) rfl (hb hby at_118) rfl (XT.i0_eq_t (by decide)) (by decide) (by decide) k) ?_
            show Fin _ p e below s _ _ _ T15 (mkF m 125 #[.val (.int p0), .val (.int o), .val (.int ((p0 &&& (2147483647 : Int32)) % (6 : Int32))), .val (.ref aLT), .val (.int (4 : Int32)), .val (.int (2 : Int32)), .unset] [])
            refine Fin.go (fun _ k => XS.iconst X15.here hx rfl (hb hby at_125) k) ?_
            show Fin _ p e below s _ _ _ T15 (mkF m 126 #[.val (.int p0), .val (.int o), .val (.int ((p0 &&& (2147483647 : Int32)) % (6 : Int32))), .val (.ref aLT), .val (.int (4 : Int32)), .val (.int (2 : Int32)), .unset] [(.int (0 : Int32))])
            refine Fin.go (fun _ k => XS.istore X15.here hx rfl (hb hby at_126) rfl (l' := #[.val (.int p0), .val (.int o), .val (.int ((p0 &&& (2147483647 : Int32)) % (6 : Int32))), .val (.ref aLT), .val (.int (4 : Int32)), .val (.int (2 : Int32)), .val (.int (0 : Int32))]) rfl k) ?_
            show Fin _ p e below s _ _ _ T15 (mkF m 128 #[.val (.int p0), .val (.int o), .val (.int ((p0 &&& (2147483647 : Int32)) % (6 : Int32))), .val (.ref aLT), .val (.int (4 : Int32)), .val (.int (2 : Int32)), .val (.int (0 : Int32))] [])
            refine Fin.go (fun _ k => XS.aloadN X15.here hx rfl (hb hby at_128) rfl rfl k) ?_
            show Fin _ p e below s _ _ _ T15 (mkF m 129 #[.val (.int p0), .val (.int o), .val (.int ((p0 &&& (2147483647 : Int32)) % (6 : Int32))), .val (.ref aLT), .val (.int (4 : Int32)), .val (.int (2 : Int32)), .val (.int (0 : Int32))] [(.ref aLT)])
            refine Fin.go (fun _ k => XS.iloadN X15.here hx rfl (hb hby at_129) rfl k) ?_
            show Fin _ p e below s _ _ _ T15 (mkF m 130 #[.val (.int p0), .val (.int o), .val (.int ((p0 &&& (2147483647 : Int32)) % (6 : Int32))), .val (.ref aLT), .val (.int (4 : Int32)), .val (.int (2 : Int32)), .val (.int (0 : Int32))] [(.int o), (.ref aLT)])
            have r18 := rmH2 l Z a0 hw n0 h0 O aLT o (A_aLT.ext O.2) (F_aLT.ext O.2)
            rw [sg_z c91 c101] at r18
            obtain ⟨v19, T19, L19, X19, q19, st19⟩ := callVt X15 hx hZ (y := (⟨"com/example/grantwell/grantwell/catalog/Condition$Operator", "holdsFor", "(I)Z"⟩ : MethodName)) hown (hw _ w_4) (hw _ w_5) (hw _ w_7) (hw _ w_6) (hw _ w_2) (hw _ w_8) (by decide) (W := 0) (r18) e15 (A_aLT.ext O.2) (by decide) (by decide) (by decide) (by decide) (g := (mkF m 130 #[.val (.int p0), .val (.int o), .val (.int ((p0 &&& (2147483647 : Int32)) % (6 : Int32))), .val (.ref aLT), .val (.int (4 : Int32)), .val (.int (2 : Int32)), .val (.int (0 : Int32))] [(.int o), (.ref aLT)])) rfl (by rw [hml]; rfl) (argsL := [(.int o)]) (rest := []) (lenOf pd_oIcZ rfl) rfl (by show 2 * 0 + _ ≤ _; exact Nat.le_of_eq rfl) (hb hby at_130)
            obtain ⟨rfl, e19, rfl⟩ := q19
            have N19 := Fr.app N0 (Fr.nil n0)
            refine Fin.go st19 ?_
            show Fin _ p e below s _ _ _ T19 (mkF m 133 #[.val (.int p0), .val (.int o), .val (.int ((p0 &&& (2147483647 : Int32)) % (6 : Int32))), .val (.ref aLT), .val (.int (4 : Int32)), .val (.int (2 : Int32)), .val (.int (0 : Int32))] [(.int (0 : Int32))])
            refine Fin.go (fun _ k => XS.iload X19.here hx rfl (hb hby at_133) rfl k) ?_
            show Fin _ p e below s _ _ _ T19 (mkF m 135 #[.val (.int p0), .val (.int o), .val (.int ((p0 &&& (2147483647 : Int32)) % (6 : Int32))), .val (.ref aLT), .val (.int (4 : Int32)), .val (.int (2 : Int32)), .val (.int (0 : Int32))] [(.int (0 : Int32)), (.int (0 : Int32))])
            refine Fin.go (fun _ k => XS.icmpNo X19.here hx rfl (hb hby at_135) rfl (XT.ii_ne_f (by decide)) k) ?_
            show Fin _ p e below s _ _ _ T19 (mkF m 138 #[.val (.int p0), .val (.int o), .val (.int ((p0 &&& (2147483647 : Int32)) % (6 : Int32))), .val (.ref aLT), .val (.int (4 : Int32)), .val (.int (2 : Int32)), .val (.int (0 : Int32))] [])
            refine Fin.go (fun _ k => XS.iconst X19.here hx rfl (hb hby at_138) k) ?_
            show Fin _ p e below s _ _ _ T19 (mkF m 139 #[.val (.int p0), .val (.int o), .val (.int ((p0 &&& (2147483647 : Int32)) % (6 : Int32))), .val (.ref aLT), .val (.int (4 : Int32)), .val (.int (2 : Int32)), .val (.int (0 : Int32))] [(.int (1 : Int32))])
            refine Fin.go (fun _ k => XS.goto X19.here hx rfl (pc0 := 139) (pc' := 143) rfl (hb hby at_139) (by decide) (by decide) k) ?_
            show Fin _ p e below s _ _ _ T19 (mkF m 143 #[.val (.int p0), .val (.int o), .val (.int ((p0 &&& (2147483647 : Int32)) % (6 : Int32))), .val (.ref aLT), .val (.int (4 : Int32)), .val (.int (2 : Int32)), .val (.int (0 : Int32))] [(.int (1 : Int32))])
            exact Fin.leaveN X19 e19 hlk (v := some (.int (nar .boolean (1 : Int32)))) (fun h => by rw [hret] at h; cases h) (by decide) (by decide) ⟨rfl, N19⟩ (fun fs hr => retN X19 hx (t := .boolean) hret (by simp) (hb hby at_143) hr)
          · refine Fin.go (fun _ k => XS.ifYes X15.here hx rfl (pc0 := 101) (pc' := 110) rfl (hb hby at_101) rfl (XT.i0_ne_t c101) (by decide) (by decide) k) ?_
            show Fin _ p e below s _ _ _ T15 (mkF m 110 #[.val (.int p0), .val (.int o), .val (.int ((p0 &&& (2147483647 : Int32)) % (6 : Int32))), .val (.ref aLT), .val (.int (4 : Int32)), .unset, .unset] [])
            refine Fin.go (fun _ k => XS.iconst X15.here hx rfl (hb hby at_110) k) ?_
            show Fin _ p e below s _ _ _ T15 (mkF m 111 #[.val (.int p0), .val (.int o), .val (.int ((p0 &&& (2147483647 : Int32)) % (6 : Int32))), .val (.ref aLT), .val (.int (4 : Int32)), .unset, .unset] [(.int (1 : Int32))])
            refine Fin.go (fun _ k => XS.istore X15.here hx rfl (hb hby at_111) rfl (l' := #[.val (.int p0), .val (.int o), .val (.int ((p0 &&& (2147483647 : Int32)) % (6 : Int32))), .val (.ref aLT), .val (.int (4 : Int32)), .val (.int (1 : Int32)), .unset]) rfl k) ?_
            show Fin _ p e below s _ _ _ T15 (mkF m 113 #[.val (.int p0), .val (.int o), .val (.int ((p0 &&& (2147483647 : Int32)) % (6 : Int32))), .val (.ref aLT), .val (.int (4 : Int32)), .val (.int (1 : Int32)), .unset] [])
            refine Fin.go (fun _ k => XS.iload X15.here hx rfl (hb hby at_113) rfl k) ?_
            show Fin _ p e below s _ _ _ T15 (mkF m 115 #[.val (.int p0), .val (.int o), .val (.int ((p0 &&& (2147483647 : Int32)) % (6 : Int32))), .val (.ref aLT), .val (.int (4 : Int32)), .val (.int (1 : Int32)), .unset] [(.int (4 : Int32))])
            refine Fin.go (fun _ k => XS.iload X15.here hx rfl (hb hby at_115) rfl k) ?_
            show Fin _ p e below s _ _ _ T15 (mkF m 117 #[.val (.int p0), .val (.int o), .val (.int ((p0 &&& (2147483647 : Int32)) % (6 : Int32))), .val (.ref aLT), .val (.int (4 : Int32)), .val (.int (1 : Int32)), .unset] [(.int (1 : Int32)), (.int (4 : Int32))])
            refine Fin.go (fun _ k => XS.iand X15.here hx rfl (hb hby at_117) rfl k) ?_
            show Fin _ p e below s _ _ _ T15 (mkF m 118 #[.val (.int p0), .val (.int o), .val (.int ((p0 &&& (2147483647 : Int32)) % (6 : Int32))), .val (.ref aLT), .val (.int (4 : Int32)), .val (.int (1 : Int32)), .unset] [(.int ((4 : Int32) &&& (1 : Int32)))])
            refine Fin.go (fun _ k => XS.ifYes X15.here hx rfl (pc0 := 118) (pc' := 125) rfl (hb hby at_118) rfl (XT.i0_eq_t (by decide)) (by decide) (by decide) k) ?_
            show Fin _ p e below s _ _ _ T15 (mkF m 125 #[.val (.int p0), .val (.int o), .val (.int ((p0 &&& (2147483647 : Int32)) % (6 : Int32))), .val (.ref aLT), .val (.int (4 : Int32)), .val (.int (1 : Int32)), .unset] [])
            refine Fin.go (fun _ k => XS.iconst X15.here hx rfl (hb hby at_125) k) ?_
            show Fin _ p e below s _ _ _ T15 (mkF m 126 #[.val (.int p0), .val (.int o), .val (.int ((p0 &&& (2147483647 : Int32)) % (6 : Int32))), .val (.ref aLT), .val (.int (4 : Int32)), .val (.int (1 : Int32)), .unset] [(.int (0 : Int32))])
            refine Fin.go (fun _ k => XS.istore X15.here hx rfl (hb hby at_126) rfl (l' := #[.val (.int p0), .val (.int o), .val (.int ((p0 &&& (2147483647 : Int32)) % (6 : Int32))), .val (.ref aLT), .val (.int (4 : Int32)), .val (.int (1 : Int32)), .val (.int (0 : Int32))]) rfl k) ?_
            show Fin _ p e below s _ _ _ T15 (mkF m 128 #[.val (.int p0), .val (.int o), .val (.int ((p0 &&& (2147483647 : Int32)) % (6 : Int32))), .val (.ref aLT), .val (.int (4 : Int32)), .val (.int (1 : Int32)), .val (.int (0 : Int32))] [])
            refine Fin.go (fun _ k => XS.aloadN X15.here hx rfl (hb hby at_128) rfl rfl k) ?_
            show Fin _ p e below s _ _ _ T15 (mkF m 129 #[.val (.int p0), .val (.int o), .val (.int ((p0 &&& (2147483647 : Int32)) % (6 : Int32))), .val (.ref aLT), .val (.int (4 : Int32)), .val (.int (1 : Int32)), .val (.int (0 : Int32))] [(.ref aLT)])
            refine Fin.go (fun _ k => XS.iloadN X15.here hx rfl (hb hby at_129) rfl k) ?_
            show Fin _ p e below s _ _ _ T15 (mkF m 130 #[.val (.int p0), .val (.int o), .val (.int ((p0 &&& (2147483647 : Int32)) % (6 : Int32))), .val (.ref aLT), .val (.int (4 : Int32)), .val (.int (1 : Int32)), .val (.int (0 : Int32))] [(.int o), (.ref aLT)])
            have r20 := rmH2 l Z a0 hw n0 h0 O aLT o (A_aLT.ext O.2) (F_aLT.ext O.2)
            rw [sg_p c91 c101] at r20
            obtain ⟨v21, T21, L21, X21, q21, st21⟩ := callVt X15 hx hZ (y := (⟨"com/example/grantwell/grantwell/catalog/Condition$Operator", "holdsFor", "(I)Z"⟩ : MethodName)) hown (hw _ w_4) (hw _ w_5) (hw _ w_7) (hw _ w_6) (hw _ w_2) (hw _ w_8) (by decide) (W := 0) (r20) e15 (A_aLT.ext O.2) (by decide) (by decide) (by decide) (by decide) (g := (mkF m 130 #[.val (.int p0), .val (.int o), .val (.int ((p0 &&& (2147483647 : Int32)) % (6 : Int32))), .val (.ref aLT), .val (.int (4 : Int32)), .val (.int (1 : Int32)), .val (.int (0 : Int32))] [(.int o), (.ref aLT)])) rfl (by rw [hml]; rfl) (argsL := [(.int o)]) (rest := []) (lenOf pd_oIcZ rfl) rfl (by show 2 * 0 + _ ≤ _; exact Nat.le_of_eq rfl) (hb hby at_130)
            obtain ⟨rfl, e21, rfl⟩ := q21
            have N21 := Fr.app N0 (Fr.nil n0)
            refine Fin.go st21 ?_
            show Fin _ p e below s _ _ _ T21 (mkF m 133 #[.val (.int p0), .val (.int o), .val (.int ((p0 &&& (2147483647 : Int32)) % (6 : Int32))), .val (.ref aLT), .val (.int (4 : Int32)), .val (.int (1 : Int32)), .val (.int (0 : Int32))] [(.int (0 : Int32))])
            refine Fin.go (fun _ k => XS.iload X21.here hx rfl (hb hby at_133) rfl k) ?_
            show Fin _ p e below s _ _ _ T21 (mkF m 135 #[.val (.int p0), .val (.int o), .val (.int ((p0 &&& (2147483647 : Int32)) % (6 : Int32))), .val (.ref aLT), .val (.int (4 : Int32)), .val (.int (1 : Int32)), .val (.int (0 : Int32))] [(.int (0 : Int32)), (.int (0 : Int32))])
            refine Fin.go (fun _ k => XS.icmpNo X21.here hx rfl (hb hby at_135) rfl (XT.ii_ne_f (by decide)) k) ?_
            show Fin _ p e below s _ _ _ T21 (mkF m 138 #[.val (.int p0), .val (.int o), .val (.int ((p0 &&& (2147483647 : Int32)) % (6 : Int32))), .val (.ref aLT), .val (.int (4 : Int32)), .val (.int (1 : Int32)), .val (.int (0 : Int32))] [])
            refine Fin.go (fun _ k => XS.iconst X21.here hx rfl (hb hby at_138) k) ?_
            show Fin _ p e below s _ _ _ T21 (mkF m 139 #[.val (.int p0), .val (.int o), .val (.int ((p0 &&& (2147483647 : Int32)) % (6 : Int32))), .val (.ref aLT), .val (.int (4 : Int32)), .val (.int (1 : Int32)), .val (.int (0 : Int32))] [(.int (1 : Int32))])
            refine Fin.go (fun _ k => XS.goto X21.here hx rfl (pc0 := 139) (pc' := 143) rfl (hb hby at_139) (by decide) (by decide) k) ?_
            show Fin _ p e below s _ _ _ T21 (mkF m 143 #[.val (.int p0), .val (.int o), .val (.int ((p0 &&& (2147483647 : Int32)) % (6 : Int32))), .val (.ref aLT), .val (.int (4 : Int32)), .val (.int (1 : Int32)), .val (.int (0 : Int32))] [(.int (1 : Int32))])
            exact Fin.leaveN X21 e21 hlk (v := some (.int (nar .boolean (1 : Int32)))) (fun h => by rw [hret] at h; cases h) (by decide) (by decide) ⟨rfl, N21⟩ (fun fs hr => retN X21 hx (t := .boolean) hret (by simp) (hb hby at_143) hr)
      · refine Fin.go (fun _ k => XS.icmpYes X0.here hx rfl (pc0 := 39) (pc' := 52) rfl (hb hby at_39) rfl (XT.ii_ne_t c39) (by decide) (by decide) k) ?_
        show Fin _ p e below s _ _ _ s₁ (mkF m 52 #[.val (.int p0), .val (.int o), .val (.int ((p0 &&& (2147483647 : Int32)) % (6 : Int32))), .unset, .unset, .unset, .unset] [])
        refine Fin.go (fun _ k => XS.iloadN X0.here hx rfl (hb hby at_52) rfl k) ?_
        show Fin _ p e below s _ _ _ s₁ (mkF m 53 #[.val (.int p0), .val (.int o), .val (.int ((p0 &&& (2147483647 : Int32)) % (6 : Int32))), .unset, .unset, .unset, .unset] [(.int ((p0 &&& (2147483647 : Int32)) % (6 : Int32)))])
        refine Fin.go (fun _ k => XS.iconst X0.here hx rfl (hb hby at_53) k) ?_
        show Fin _ p e below s _ _ _ s₁ (mkF m 54 #[.val (.int p0), .val (.int o), .val (.int ((p0 &&& (2147483647 : Int32)) % (6 : Int32))), .unset, .unset, .unset, .unset] [(.int (3 : Int32)), (.int ((p0 &&& (2147483647 : Int32)) % (6 : Int32)))])
        by_cases c54 : ((p0 &&& (2147483647 : Int32)) % (6 : Int32)) = (3 : Int32)
        · refine Fin.go (fun _ k => XS.icmpNo X0.here hx rfl (hb hby at_54) rfl (XT.ii_ne_f c54) k) ?_
          show Fin _ p e below s _ _ _ s₁ (mkF m 57 #[.val (.int p0), .val (.int o), .val (.int ((p0 &&& (2147483647 : Int32)) % (6 : Int32))), .unset, .unset, .unset, .unset] [])
          obtain ⟨T22, X22, e22, st22⟩ := getS2 X0 hx hZ hown (host := "") (Or.inl (hw _ w_26)) Via.refl e0 (S_aLE.ext O.2) (g := (mkF m 57 #[.val (.int p0), .val (.int o), .val (.int ((p0 &&& (2147483647 : Int32)) % (6 : Int32))), .unset, .unset, .unset, .unset] [])) rfl (hb hby at_57)
          refine Fin.go st22 ?_
          show Fin _ p e below s _ _ _ T22 (mkF m 60 #[.val (.int p0), .val (.int o), .val (.int ((p0 &&& (2147483647 : Int32)) % (6 : Int32))), .unset, .unset, .unset, .unset] [(.ref aLE)])
          refine Fin.go (fun _ k => XS.astoreN X22.here hx rfl (hb hby at_60) rfl rfl (l' := #[.val (.int p0), .val (.int o), .val (.int ((p0 &&& (2147483647 : Int32)) % (6 : Int32))), .val (.ref aLE), .unset, .unset, .unset]) rfl k) ?_
          show Fin _ p e below s _ _ _ T22 (mkF m 61 #[.val (.int p0), .val (.int o), .val (.int ((p0 &&& (2147483647 : Int32)) % (6 : Int32))), .val (.ref aLE), .unset, .unset, .unset] [])
          refine Fin.go (fun _ k => XS.bipush X22.here hx rfl (hb hby at_61) k) ?_
          show Fin _ p e below s _ _ _ T22 (mkF m 63 #[.val (.int p0), .val (.int o), .val (.int ((p0 &&& (2147483647 : Int32)) % (6 : Int32))), .val (.ref aLE), .unset, .unset, .unset] [(.int (6 : Int32))])
          refine Fin.go (fun _ k => XS.istore X22.here hx rfl (hb hby at_63) rfl (l' := #[.val (.int p0), .val (.int o), .val (.int ((p0 &&& (2147483647 : Int32)) % (6 : Int32))), .val (.ref aLE), .val (.int (6 : Int32)), .unset, .unset]) rfl k) ?_
          show Fin _ p e below s _ _ _ T22 (mkF m 65 #[.val (.int p0), .val (.int o), .val (.int ((p0 &&& (2147483647 : Int32)) % (6 : Int32))), .val (.ref aLE), .val (.int (6 : Int32)), .unset, .unset] [])
          refine Fin.go (fun _ k => XS.goto X22.here hx rfl (pc0 := 65) (pc' := 90) rfl (hb hby at_65) (by decide) (by decide) k) ?_
          show Fin _ p e below s _ _ _ T22 (mkF m 90 #[.val (.int p0), .val (.int o), .val (.int ((p0 &&& (2147483647 : Int32)) % (6 : Int32))), .val (.ref aLE), .val (.int (6 : Int32)), .unset, .unset] [])
          refine Fin.go (fun _ k => XS.iloadN X22.here hx rfl (hb hby at_90) rfl k) ?_
          show Fin _ p e below s _ _ _ T22 (mkF m 91 #[.val (.int p0), .val (.int o), .val (.int ((p0 &&& (2147483647 : Int32)) % (6 : Int32))), .val (.ref aLE), .val (.int (6 : Int32)), .unset, .unset] [(.int o)])
          by_cases c91 : o < 0
          · refine Fin.go (fun _ k => XS.ifNo X22.here hx rfl (hb hby at_91) rfl (XT.i0_ge_f c91) k) ?_
            show Fin _ p e below s _ _ _ T22 (mkF m 94 #[.val (.int p0), .val (.int o), .val (.int ((p0 &&& (2147483647 : Int32)) % (6 : Int32))), .val (.ref aLE), .val (.int (6 : Int32)), .unset, .unset] [])
            refine Fin.go (fun _ k => XS.iconst X22.here hx rfl (hb hby at_94) k) ?_
            show Fin _ p e below s _ _ _ T22 (mkF m 95 #[.val (.int p0), .val (.int o), .val (.int ((p0 &&& (2147483647 : Int32)) % (6 : Int32))), .val (.ref aLE), .val (.int (6 : Int32)), .unset, .unset] [(.int (4 : Int32))])
            refine Fin.go (fun _ k => XS.istore X22.here hx rfl (hb hby at_95) rfl (l' := #[.val (.int p0), .val (.int o), .val (.int ((p0 &&& (2147483647 : Int32)) % (6 : Int32))), .val (.ref aLE), .val (.int (6 : Int32)), .val (.int (4 : Int32)), .unset]) rfl k) ?_
            show Fin _ p e below s _ _ _ T22 (mkF m 97 #[.val (.int p0), .val (.int o), .val (.int ((p0 &&& (2147483647 : Int32)) % (6 : Int32))), .val (.ref aLE), .val (.int (6 : Int32)), .val (.int (4 : Int32)), .unset] [])
            refine Fin.go (fun _ k => XS.goto X22.here hx rfl (pc0 := 97) (pc' := 113) rfl (hb hby at_97) (by decide) (by decide) k) ?_
            show Fin _ p e below s _ _ _ T22 (mkF m 113 #[.val (.int p0), .val (.int o), .val (.int ((p0 &&& (2147483647 : Int32)) % (6 : Int32))), .val (.ref aLE), .val (.int (6 : Int32)), .val (.int (4 : Int32)), .unset] [])
            refine Fin.go (fun _ k => XS.iload X22.here hx rfl (hb hby at_113) rfl k) ?_
            show Fin _ p e below s _ _ _ T22 (mkF m 115 #[.val (.int p0), .val (.int o), .val (.int ((p0 &&& (2147483647 : Int32)) % (6 : Int32))), .val (.ref aLE), .val (.int (6 : Int32)), .val (.int (4 : Int32)), .unset] [(.int (6 : Int32))])
            refine Fin.go (fun _ k => XS.iload X22.here hx rfl (hb hby at_115) rfl k) ?_
            show Fin _ p e below s _ _ _ T22 (mkF m 117 #[.val (.int p0), .val (.int o), .val (.int ((p0 &&& (2147483647 : Int32)) % (6 : Int32))), .val (.ref aLE), .val (.int (6 : Int32)), .val (.int (4 : Int32)), .unset] [(.int (4 : Int32)), (.int (6 : Int32))])
            refine Fin.go (fun _ k => XS.iand X22.here hx rfl (hb hby at_117) rfl k) ?_
            show Fin _ p e below s _ _ _ T22 (mkF m 118 #[.val (.int p0), .val (.int o), .val (.int ((p0 &&& (2147483647 : Int32)) % (6 : Int32))), .val (.ref aLE), .val (.int (6 : Int32)), .val (.int (4 : Int32)), .unset] [(.int ((6 : Int32) &&& (4 : Int32)))])
            refine Fin.go (fun _ k => XS.ifNo X22.here hx rfl (hb hby at_118) rfl (XT.i0_eq_f (by decide)) k) ?_
            show Fin _ p e below s _ _ _ T22 (mkF m 121 #[.val (.int p0), .val (.int o), .val (.int ((p0 &&& (2147483647 : Int32)) % (6 : Int32))), .val (.ref aLE), .val (.int (6 : Int32)), .val (.int (4 : Int32)), .unset] [])
            refine Fin.go (fun _ k => XS.iconst X22.here hx rfl (hb hby at_121) k) ?_
            show Fin _ p e below s _ _ _ T22 (mkF m 122 #[.val (.int p0), .val (.int o), .val (.int ((p0 &&& (2147483647 : Int32)) % (6 : Int32))), .val (.ref aLE), .val (.int (6 : Int32)), .val (.int (4 : Int32)), .unset] [(.int (1 : Int32))])
            refine Fin.go (fun _ k => XS.goto X22.here hx rfl (pc0 := 122) (pc' := 126) rfl (hb hby at_122) (by decide) (by decide) k) ?_
            show Fin _ p e below s _ _ _ T22 (mkF m 126 #[.val (.int p0), .val (.int o), .val (.int ((p0 &&& (2147483647 : Int32)) % (6 : Int32))), .val (.ref aLE), .val (.int (6 : Int32)), .val (.int (4 : Int32)), .unset] [(.int (1 : Int32))])
            refine Fin.go (fun _ k => XS.istore X22.here hx rfl (hb hby at_126) rfl (l' := #[.val (.int p0), .val (.int o), .val (.int ((p0 &&& (2147483647 : Int32)) % (6 : Int32))), .val (.ref aLE), .val (.int (6 : Int32)), .val (.int (4 : Int32)), .val (.int (1 : Int32))]) rfl k) ?_
            show Fin _ p e below s _ _ _ T22 (mkF m 128 #[.val (.int p0), .val (.int o), .val (.int ((p0 &&& (2147483647 : Int32)) % (6 : Int32))), .val (.ref aLE), .val (.int (6 : Int32)), .val (.int (4 : Int32)), .val (.int (1 : Int32))] [])
            refine Fin.go (fun _ k => XS.aloadN X22.here hx rfl (hb hby at_128) rfl rfl k) ?_
            show Fin _ p e below s _ _ _ T22 (mkF m 129 #[.val (.int p0), .val (.int o), .val (.int ((p0 &&& (2147483647 : Int32)) % (6 : Int32))), .val (.ref aLE), .val (.int (6 : Int32)), .val (.int (4 : Int32)), .val (.int (1 : Int32))] [(.ref aLE)])
            refine Fin.go (fun _ k => XS.iloadN X22.here hx rfl (hb hby at_129) rfl k) ?_
            show Fin _ p e below s _ _ _ T22 (mkF m 130 #[.val (.int p0), .val (.int o), .val (.int ((p0 &&& (2147483647 : Int32)) % (6 : Int32))), .val (.ref aLE), .val (.int (6 : Int32)), .val (.int (4 : Int32)), .val (.int (1 : Int32))] [(.int o), (.ref aLE)])
            have r23 := rmH3 l Z a0 hw n0 h0 O aLE o (A_aLE.ext O.2) (F_aLE.ext O.2)
            rw [sg_n c91] at r23
            obtain ⟨v24, T24, L24, X24, q24, st24⟩ := callVt X22 hx hZ (y := (⟨"com/example/grantwell/grantwell/catalog/Condition$Operator", "holdsFor", "(I)Z"⟩ : MethodName)) hown (hw _ w_4) (hw _ w_5) (hw _ w_7) (hw _ w_6) (hw _ w_2) (hw _ w_8) (by decide) (W := 0) (r23) e22 (A_aLE.ext O.2) (by decide) (by decide) (by decide) (by decide) (g := (mkF m 130 #[.val (.int p0), .val (.int o), .val (.int ((p0 &&& (2147483647 : Int32)) % (6 : Int32))), .val (.ref aLE), .val (.int (6 : Int32)), .val (.int (4 : Int32)), .val (.int (1 : Int32))] [(.int o), (.ref aLE)])) rfl (by rw [hml]; rfl) (argsL := [(.int o)]) (rest := []) (lenOf pd_oIcZ rfl) rfl (by show 2 * 0 + _ ≤ _; exact Nat.le_of_eq rfl) (hb hby at_130)
            obtain ⟨rfl, e24, rfl⟩ := q24
            have N24 := Fr.app N0 (Fr.nil n0)
            refine Fin.go st24 ?_
            show Fin _ p e below s _ _ _ T24 (mkF m 133 #[.val (.int p0), .val (.int o), .val (.int ((p0 &&& (2147483647 : Int32)) % (6 : Int32))), .val (.ref aLE), .val (.int (6 : Int32)), .val (.int (4 : Int32)), .val (.int (1 : Int32))] [(.int (1 : Int32))])
            refine Fin.go (fun _ k => XS.iload X24.here hx rfl (hb hby at_133) rfl k) ?_
            show Fin _ p e below s _ _ _ T24 (mkF m 135 #[.val (.int p0), .val (.int o), .val (.int ((p0 &&& (2147483647 : Int32)) % (6 : Int32))), .val (.ref aLE), .val (.int (6 : Int32)), .val (.int (4 : Int32)), .val (.int (1 : Int32))] [(.int (1 : Int32)), (.int (1 : Int32))])
            refine Fin.go (fun _ k => XS.icmpNo X24.here hx rfl (hb hby at_135) rfl (XT.ii_ne_f (by decide)) k) ?_
            show Fin _ p e below s _ _ _ T24 (mkF m 138 #[.val (.int p0), .val (.int o), .val (.int ((p0 &&& (2147483647 : Int32)) % (6 : Int32))), .val (.ref aLE), .val (.int (6 : Int32)), .val (.int (4 : Int32)), .val (.int (1 : Int32))] [])
            refine Fin.go (fun _ k => XS.iconst X24.here hx rfl (hb hby at_138) k) ?_
            show Fin _ p e below s _ _ _ T24 (mkF m 139 #[.val (.int p0), .val (.int o), .val (.int ((p0 &&& (2147483647 : Int32)) % (6 : Int32))), .val (.ref aLE), .val (.int (6 : Int32)), .val (.int (4 : Int32)), .val (.int (1 : Int32))] [(.int (1 : Int32))])
            refine Fin.go (fun _ k => XS.goto X24.here hx rfl (pc0 := 139) (pc' := 143) rfl (hb hby at_139) (by decide) (by decide) k) ?_
            show Fin _ p e below s _ _ _ T24 (mkF m 143 #[.val (.int p0), .val (.int o), .val (.int ((p0 &&& (2147483647 : Int32)) % (6 : Int32))), .val (.ref aLE), .val (.int (6 : Int32)), .val (.int (4 : Int32)), .val (.int (1 : Int32))] [(.int (1 : Int32))])
            exact Fin.leaveN X24 e24 hlk (v := some (.int (nar .boolean (1 : Int32)))) (fun h => by rw [hret] at h; cases h) (by decide) (by decide) ⟨rfl, N24⟩ (fun fs hr => retN X24 hx (t := .boolean) hret (by simp) (hb hby at_143) hr)
          · refine Fin.go (fun _ k => XS.ifYes X22.here hx rfl (pc0 := 91) (pc' := 100) rfl (hb hby at_91) rfl (XT.i0_ge_t c91) (by decide) (by decide) k) ?_
            show Fin _ p e below s _ _ _ T22 (mkF m 100 #[.val (.int p0), .val (.int o), .val (.int ((p0 &&& (2147483647 : Int32)) % (6 : Int32))), .val (.ref aLE), .val (.int (6 : Int32)), .unset, .unset] [])
            refine Fin.go (fun _ k => XS.iloadN X22.here hx rfl (hb hby at_100) rfl k) ?_
            show Fin _ p e below s _ _ _ T22 (mkF m 101 #[.val (.int p0), .val (.int o), .val (.int ((p0 &&& (2147483647 : Int32)) % (6 : Int32))), .val (.ref aLE), .val (.int (6 : Int32)), .unset, .unset] [(.int o)])
            by_cases c101 : o = 0
            · refine Fin.go (fun _ k => XS.ifNo X22.here hx rfl (hb hby at_101) rfl (XT.i0_ne_f c101) k) ?_
              show Fin _ p e below s _ _ _ T22 (mkF m 104 #[.val (.int p0), .val (.int o), .val (.int ((p0 &&& (2147483647 : Int32)) % (6 : Int32))), .val (.ref aLE), .val (.int (6 : Int32)), .unset, .unset] [])
              refine Fin.go (fun _ k => XS.iconst X22.here hx rfl (hb hby at_104) k) ?_
              show Fin _ p e below s _ _ _ T22 (mkF m 105 #[.val (.int p0), .val (.int o), .val (.int ((p0 &&& (2147483647 : Int32)) % (6 : Int32))), .val (.ref aLE), .val (.int (6 : Int32)), .unset, .unset] [(.int (2 : Int32))])
              refine Fin.go (fun _ k => XS.istore X22.here hx rfl (hb hby at_105) rfl (l' := #[.val (.int p0), .val (.int o), .val (.int ((p0 &&& (2147483647 : Int32)) % (6 : Int32))), .val (.ref aLE), .val (.int (6 : Int32)), .val (.int (2 : Int32)), .unset]) rfl k) ?_
              show Fin _ p e below s _ _ _ T22 (mkF m 107 #[.val (.int p0), .val (.int o), .val (.int ((p0 &&& (2147483647 : Int32)) % (6 : Int32))), .val (.ref aLE), .val (.int (6 : Int32)), .val (.int (2 : Int32)), .unset] [])
              refine Fin.go (fun _ k => XS.goto X22.here hx rfl (pc0 := 107) (pc' := 113) rfl (hb hby at_107) (by decide) (by decide) k) ?_
              show Fin _ p e below s _ _ _ T22 (mkF m 113 #[.val (.int p0), .val (.int o), .val (.int ((p0 &&& (2147483647 : Int32)) % (6 : Int32))), .val (.ref aLE), .val (.int (6 : Int32)), .val (.int (2 : Int32)), .unset] [])
              refine Fin.go (fun _ k => XS.iload X22.here hx rfl (hb hby at_113) rfl k) ?_
              show Fin _ p e below s _ _ _ T22 (mkF m 115 #[.val (.int p0), .val (.int o), .val (.int ((p0 &&& (2147483647 : Int32)) % (6 : Int32))), .val (.ref aLE), .val (.int (6 : Int32)), .val (.int (2 : Int32)), .unset] [(.int (6 : Int32))])
              refine Fin.go (fun _ k => XS.iload X22.here hx rfl (hb hby at_115) rfl k) ?_
              show Fin _ p e below s _ _ _ T22 (mkF m 117 #[.val (.int p0), .val (.int o), .val (.int ((p0 &&& (2147483647 : Int32)) % (6 : Int32))), .val (.ref aLE), .val (.int (6 : Int32)), .val (.int (2 : Int32)), .unset] [(.int (2 : Int32)), (.int (6 : Int32))])
              refine Fin.go (fun _ k => XS.iand X22.here hx rfl (hb hby at_117) rfl k) ?_
              show Fin _ p e below s _ _ _ T22 (mkF m 118 #[.val (.int p0), .val (.int o), .val (.int ((p0 &&& (2147483647 : Int32)) % (6 : Int32))), .val (.ref aLE), .val (.int (6 : Int32)), .val (.int (2 : Int32)), .unset] [(.int ((6 : Int32) &&& (2 : Int32)))])
              refine Fin.go (fun _ k => XS.ifNo X22.here hx rfl (hb hby at_118) rfl (XT.i0_eq_f (by decide)) k) ?_
              show Fin _ p e below s _ _ _ T22 (mkF m 121 #[.val (.int p0), .val (.int o), .val (.int ((p0 &&& (2147483647 : Int32)) % (6 : Int32))), .val (.ref aLE), .val (.int (6 : Int32)), .val (.int (2 : Int32)), .unset] [])
              refine Fin.go (fun _ k => XS.iconst X22.here hx rfl (hb hby at_121) k) ?_
              show Fin _ p e below s _ _ _ T22 (mkF m 122 #[.val (.int p0), .val (.int o), .val (.int ((p0 &&& (2147483647 : Int32)) % (6 : Int32))), .val (.ref aLE), .val (.int (6 : Int32)), .val (.int (2 : Int32)), .unset] [(.int (1 : Int32))])
              refine Fin.go (fun _ k => XS.goto X22.here hx rfl (pc0 := 122) (pc' := 126) rfl (hb hby at_122) (by decide) (by decide) k) ?_
              show Fin _ p e below s _ _ _ T22 (mkF m 126 #[.val (.int p0), .val (.int o), .val (.int ((p0 &&& (2147483647 : Int32)) % (6 : Int32))), .val (.ref aLE), .val (.int (6 : Int32)), .val (.int (2 : Int32)), .unset] [(.int (1 : Int32))])
              refine Fin.go (fun _ k => XS.istore X22.here hx rfl (hb hby at_126) rfl (l' := #[.val (.int p0), .val (.int o), .val (.int ((p0 &&& (2147483647 : Int32)) % (6 : Int32))), .val (.ref aLE), .val (.int (6 : Int32)), .val (.int (2 : Int32)), .val (.int (1 : Int32))]) rfl k) ?_
              show Fin _ p e below s _ _ _ T22 (mkF m 128 #[.val (.int p0), .val (.int o), .val (.int ((p0 &&& (2147483647 : Int32)) % (6 : Int32))), .val (.ref aLE), .val (.int (6 : Int32)), .val (.int (2 : Int32)), .val (.int (1 : Int32))] [])
              refine Fin.go (fun _ k => XS.aloadN X22.here hx rfl (hb hby at_128) rfl rfl k) ?_
              show Fin _ p e below s _ _ _ T22 (mkF m 129 #[.val (.int p0), .val (.int o), .val (.int ((p0 &&& (2147483647 : Int32)) % (6 : Int32))), .val (.ref aLE), .val (.int (6 : Int32)), .val (.int (2 : Int32)), .val (.int (1 : Int32))] [(.ref aLE)])
              refine Fin.go (fun _ k => XS.iloadN X22.here hx rfl (hb hby at_129) rfl k) ?_
              show Fin _ p e below s _ _ _ T22 (mkF m 130 #[.val (.int p0), .val (.int o), .val (.int ((p0 &&& (2147483647 : Int32)) % (6 : Int32))), .val (.ref aLE), .val (.int (6 : Int32)), .val (.int (2 : Int32)), .val (.int (1 : Int32))] [(.int o), (.ref aLE)])
              have r25 := rmH3 l Z a0 hw n0 h0 O aLE o (A_aLE.ext O.2) (F_aLE.ext O.2)
              rw [sg_z c91 c101] at r25
              obtain ⟨v26, T26, L26, X26, q26, st26⟩ := callVt X22 hx hZ (y := (⟨"com/example/grantwell/grantwell/catalog/Condition$Operator", "holdsFor", "(I)Z"⟩ : MethodName)) hown (hw _ w_4) (hw _ w_5) (hw _ w_7) (hw _ w_6) (hw _ w_2) (hw _ w_8) (by decide) (W := 0) (r25) e22 (A_aLE.ext O.2) (by decide) (by decide) (by decide) (by decide) (g := (mkF m 130 #[.val (.int p0), .val (.int o), .val (.int ((p0 &&& (2147483647 : Int32)) % (6 : Int32))), .val (.ref aLE), .val (.int (6 : Int32)), .val (.int (2 : Int32)), .val (.int (1 : Int32))] [(.int o), (.ref aLE)])) rfl (by rw [hml]; rfl) (argsL := [(.int o)]) (rest := []) (lenOf pd_oIcZ rfl) rfl (by show 2 * 0 + _ ≤ _; exact Nat.le_of_eq rfl) (hb hby at_130)
              obtain ⟨rfl, e26, rfl⟩ := q26
              have N26 := Fr.app N0 (Fr.nil n0)
              refine Fin.go st26 ?_
              show Fin _ p e below s _ _ _ T26 (mkF m 133 #[.val (.int p0), .val (.int o), .val (.int ((p0 &&& (2147483647 : Int32)) % (6 : Int32))), .val (.ref aLE), .val (.int (6 : Int32)), .val (.int (2 : Int32)), .val (.int (1 : Int32))] [(.int (1 : Int32))])
              refine Fin.go (fun _ k => XS.iload X26.here hx rfl (hb hby at_133) rfl k) ?_
              show Fin _ p e below s _ _ _ T26 (mkF m 135 #[.val (.int p0), .val (.int o), .val (.int ((p0 &&& (2147483647 : Int32)) % (6 : Int32))), .val (.ref aLE), .val (.int (6 : Int32)), .val (.int (2 : Int32)), .val (.int (1 : Int32))] [(.int (1 : Int32)), (.int (1 : Int32))])
              refine Fin.go (fun _ k => XS.icmpNo X26.here hx rfl (hb hby at_135) rfl (XT.ii_ne_f (by decide)) k) ?_
              show Fin _ p e below s _ _ _ T26 (mkF m 138 #[.val (.int p0), .val (.int o), .val (.int ((p0 &&& (2147483647 : Int32)) % (6 : Int32))), .val (.ref aLE), .val (.int (6 : Int32)), .val (.int (2 : Int32)), .val (.int (1 : Int32))] [])
              refine Fin.go (fun _ k => XS.iconst X26.here hx rfl (hb hby at_138) k) ?_
              show Fin _ p e below s _ _ _ T26 (mkF m 139 #[.val (.int p0), .val (.int o), .val (.int ((p0 &&& (2147483647 : Int32)) % (6 : Int32))), .val (.ref aLE), .val (.int (6 : Int32)), .val (.int (2 : Int32)), .val (.int (1 : Int32))] [(.int (1 : Int32))])
              refine Fin.go (fun _ k => XS.goto X26.here hx rfl (pc0 := 139) (pc' := 143) rfl (hb hby at_139) (by decide) (by decide) k) ?_
              show Fin _ p e below s _ _ _ T26 (mkF m 143 #[.val (.int p0), .val (.int o), .val (.int ((p0 &&& (2147483647 : Int32)) % (6 : Int32))), .val (.ref aLE), .val (.int (6 : Int32)), .val (.int (2 : Int32)), .val (.int (1 : Int32))] [(.int (1 : Int32))])
              exact Fin.leaveN X26 e26 hlk (v := some (.int (nar .boolean (1 : Int32)))) (fun h => by rw [hret] at h; cases h) (by decide) (by decide) ⟨rfl, N26⟩ (fun fs hr => retN X26 hx (t := .boolean) hret (by simp) (hb hby at_143) hr)
            · refine Fin.go (fun _ k => XS.ifYes X22.here hx rfl (pc0 := 101) (pc' := 110) rfl (hb hby at_101) rfl (XT.i0_ne_t c101) (by decide) (by decide) k) ?_
              show Fin _ p e below s _ _ _ T22 (mkF m 110 #[.val (.int p0), .val (.int o), .val (.int ((p0 &&& (2147483647 : Int32)) % (6 : Int32))), .val (.ref aLE), .val (.int (6 : Int32)), .unset, .unset] [])
              refine Fin.go (fun _ k => XS.iconst X22.here hx rfl (hb hby at_110) k) ?_
              show Fin _ p e below s _ _ _ T22 (mkF m 111 #[.val (.int p0), .val (.int o), .val (.int ((p0 &&& (2147483647 : Int32)) % (6 : Int32))), .val (.ref aLE), .val (.int (6 : Int32)), .unset, .unset] [(.int (1 : Int32))])
              refine Fin.go (fun _ k => XS.istore X22.here hx rfl (hb hby at_111) rfl (l' := #[.val (.int p0), .val (.int o), .val (.int ((p0 &&& (2147483647 : Int32)) % (6 : Int32))), .val (.ref aLE), .val (.int (6 : Int32)), .val (.int (1 : Int32)), .unset]) rfl k) ?_
              show Fin _ p e below s _ _ _ T22 (mkF m 113 #[.val (.int p0), .val (.int o), .val (.int ((p0 &&& (2147483647 : Int32)) % (6 : Int32))), .val (.ref aLE), .val (.int (6 : Int32)), .val (.int (1 : Int32)), .unset] [])
              refine Fin.go (fun _ k => XS.iload X22.here hx rfl (hb hby at_113) rfl k) ?_
              show Fin _ p e below s _ _ _ T22 (mkF m 115 #[.val (.int p0), .val (.int o), .val (.int ((p0 &&& (2147483647 : Int32)) % (6 : Int32))), .val (.ref aLE), .val (.int (6 : Int32)), .val (.int (1 : Int32)), .unset] [(.int (6 : Int32))])
              refine Fin.go (fun _ k => XS.iload X22.here hx rfl (hb hby at_115) rfl k) ?_
              show Fin _ p e below s _ _ _ T22 (mkF m 117 #[.val (.int p0), .val (.int o), .val (.int ((p0 &&& (2147483647 : Int32)) % (6 : Int32))), .val (.ref aLE), .val (.int (6 : Int32)), .val (.int (1 : Int32)), .unset] [(.int (1 : Int32)), (.int (6 : Int32))])
              refine Fin.go (fun _ k => XS.iand X22.here hx rfl (hb hby at_117) rfl k) ?_
              show Fin _ p e below s _ _ _ T22 (mkF m 118 #[.val (.int p0), .val (.int o), .val (.int ((p0 &&& (2147483647 : Int32)) % (6 : Int32))), .val (.ref aLE), .val (.int (6 : Int32)), .val (.int (1 : Int32)), .unset] [(.int ((6 : Int32) &&& (1 : Int32)))])
              refine Fin.go (fun _ k => XS.ifYes X22.here hx rfl (pc0 := 118) (pc' := 125) rfl (hb hby at_118) rfl (XT.i0_eq_t (by decide)) (by decide) (by decide) k) ?_
              show Fin _ p e below s _ _ _ T22 (mkF m 125 #[.val (.int p0), .val (.int o), .val (.int ((p0 &&& (2147483647 : Int32)) % (6 : Int32))), .val (.ref aLE), .val (.int (6 : Int32)), .val (.int (1 : Int32)), .unset] [])
              refine Fin.go (fun _ k => XS.iconst X22.here hx rfl (hb hby at_125) k) ?_
              show Fin _ p e below s _ _ _ T22 (mkF m 126 #[.val (.int p0), .val (.int o), .val (.int ((p0 &&& (2147483647 : Int32)) % (6 : Int32))), .val (.ref aLE), .val (.int (6 : Int32)), .val (.int (1 : Int32)), .unset] [(.int (0 : Int32))])
              refine Fin.go (fun _ k => XS.istore X22.here hx rfl (hb hby at_126) rfl (l' := #[.val (.int p0), .val (.int o), .val (.int ((p0 &&& (2147483647 : Int32)) % (6 : Int32))), .val (.ref aLE), .val (.int (6 : Int32)), .val (.int (1 : Int32)), .val (.int (0 : Int32))]) rfl k) ?_
              show Fin _ p e below s _ _ _ T22 (mkF m 128 #[.val (.int p0), .val (.int o), .val (.int ((p0 &&& (2147483647 : Int32)) % (6 : Int32))), .val (.ref aLE), .val (.int (6 : Int32)), .val (.int (1 : Int32)), .val (.int (0 : Int32))] [])
              refine Fin.go (fun _ k => XS.aloadN X22.here hx rfl (hb hby at_128) rfl rfl k) ?_
              show Fin _ p e below s _ _ _ T22 (mkF m 129 #[.val (.int p0), .val (.int o), .val (.int ((p0 &&& (2147483647 : Int32)) % (6 : Int32))), .val (.ref aLE), .val (.int (6 : Int32)), .val (.int (1 : Int32)), .val (.int (0 : Int32))] [(.ref aLE)])
              refine Fin.go (fun _ k => XS.iloadN X22.here hx rfl (hb hby at_129) rfl k) ?_
              show Fin _ p e below s _ _ _ T22 (mkF m 130 #[.val (.int p0), .val (.int o), .val (.int ((p0 &&& (2147483647 : Int32)) % (6 : Int32))), .val (.ref aLE), .val (.int (6 : Int32)), .val (.int (1 : Int32)), .val (.int (0 : Int32))] [(.int o), (.ref aLE)])
              have r27 := rmH3 l Z a0 hw n0 h0 O aLE o (A_aLE.ext O.2) (F_aLE.ext O.2)
              rw [sg_p c91 c101] at r27
              obtain ⟨v28, T28, L28, X28, q28, st28⟩ := callVt X22 hx hZ (y := (⟨"com/example/grantwell/grantwell/catalog/Condition$Operator", "holdsFor", "(I)Z"⟩ : MethodName)) hown (hw _ w_4) (hw _ w_5) (hw _ w_7) (hw _ w_6) (hw _ w_2) (hw _ w_8) (by decide) (W := 0) (r27) e22 (A_aLE.ext O.2) (by decide) (by decide) (by decide) (by decide) (g := (mkF m 130 #[.val (.int p0), .val (.int o), .val (.int ((p0 &&& (2147483647 : Int32)) % (6 : Int32))), .val (.ref aLE), .val (.int (6 : Int32)), .val (.int (1 : Int32)), .val (.int (0 : Int32))] [(.int o), (.ref aLE)])) rfl (by rw [hml]; rfl) (argsL := [(.int o)]) (rest := []) (lenOf pd_oIcZ rfl) rfl (by show 2 * 0 + _ ≤ _; exact Nat.le_of_eq rfl) (hb hby at_130)
              obtain ⟨rfl, e28, rfl⟩ := q28
              have N28 := Fr.app N0 (Fr.nil n0)
              refine Fin.go st28 ?_
              show Fin _ p e below s _ _ _ T28 (mkF m 133 #[.val (.int p0), .val (.int o), .val (.int ((p0 &&& (2147483647 : Int32)) % (6 : Int32))), .val (.ref aLE), .val (.int (6 : Int32)), .val (.int (1 : Int32)), .val (.int (0 : Int32))] [(.int (0 : Int32))])
              refine Fin.go (fun _ k => XS.iload X28.here hx rfl (hb hby at_133) rfl k) ?_
              show Fin _ p e below s _ _ _ T28 (mkF m 135 #[.val (.int p0), .val (.int o), .val (.int ((p0 &&& (2147483647 : Int32)) % (6 : Int32))), .val (.ref aLE), .val (.int (6 : Int32)), .val (.int (1 : Int32)), .val (.int (0 : Int32))] [(.int (0 : Int32)), (.int (0 : Int32))])
              refine Fin.go (fun _ k => XS.icmpNo X28.here hx rfl (hb hby at_135) rfl (XT.ii_ne_f (by decide)) k) ?_
              show Fin _ p e below s _ _ _ T28 (mkF m 138 #[.val (.int p0), .val (.int o), .val (.int ((p0 &&& (2147483647 : Int32)) % (6 : Int32))), .val (.ref aLE), .val (.int (6 : Int32)), .val (.int (1 : Int32)), .val (.int (0 : Int32))] [])
              refine Fin.go (fun _ k => XS.iconst X28.here hx rfl (hb hby at_138) k) ?_
              show Fin _ p e below s _ _ _ T28 (mkF m 139 #[.val (.int p0), .val (.int o), .val (.int ((p0 &&& (2147483647 : Int32)) % (6 : Int32))), .val (.ref aLE), .val (.int (6 : Int32)), .val (.int (1 : Int32)), .val (.int (0 : Int32))] [(.int (1 : Int32))])
              refine Fin.go (fun _ k => XS.goto X28.here hx rfl (pc0 := 139) (pc' := 143) rfl (hb hby at_139) (by decide) (by decide) k) ?_
              show Fin _ p e below s _ _ _ T28 (mkF m 143 #[.val (.int p0), .val (.int o), .val (.int ((p0 &&& (2147483647 : Int32)) % (6 : Int32))), .val (.ref aLE), .val (.int (6 : Int32)), .val (.int (1 : Int32)), .val (.int (0 : Int32))] [(.int (1 : Int32))])
              exact Fin.leaveN X28 e28 hlk (v := some (.int (nar .boolean (1 : Int32)))) (fun h => by rw [hret] at h; cases h) (by decide) (by decide) ⟨rfl, N28⟩ (fun fs hr => retN X28 hx (t := .boolean) hret (by simp) (hb hby at_143) hr)
        · refine Fin.go (fun _ k => XS.icmpYes X0.here hx rfl (pc0 := 54) (pc' := 68) rfl (hb hby at_54) rfl (XT.ii_ne_t c54) (by decide) (by decide) k) ?_
          show Fin _ p e below s _ _ _ s₁ (mkF m 68 #[.val (.int p0), .val (.int o), .val (.int ((p0 &&& (2147483647 : Int32)) % (6 : Int32))), .unset, .unset, .unset, .unset] [])
          refine Fin.go (fun _ k => XS.iloadN X0.here hx rfl (hb hby at_68) rfl k) ?_
          show Fin _ p e below s _ _ _ s₁ (mkF m 69 #[.val (.int p0), .val (.int o), .val (.int ((p0 &&& (2147483647 : Int32)) % (6 : Int32))), .unset, .unset, .unset, .unset] [(.int ((p0 &&& (2147483647 : Int32)) % (6 : Int32)))])
          refine Fin.go (fun _ k => XS.iconst X0.here hx rfl (hb hby at_69) k) ?_
          show Fin _ p e below s _ _ _ s₁ (mkF m 70 #[.val (.int p0), .val (.int o), .val (.int ((p0 &&& (2147483647 : Int32)) % (6 : Int32))), .unset, .unset, .unset, .unset] [(.int (4 : Int32)), (.int ((p0 &&& (2147483647 : Int32)) % (6 : Int32)))])
          by_cases c70 : ((p0 &&& (2147483647 : Int32)) % (6 : Int32)) = (4 : Int32)
          · refine Fin.go (fun _ k => XS.icmpNo X0.here hx rfl (hb hby at_70) rfl (XT.ii_ne_f c70) k) ?_
            show Fin _ p e below s _ _ _ s₁ (mkF m 73 #[.val (.int p0), .val (.int o), .val (.int ((p0 &&& (2147483647 : Int32)) % (6 : Int32))), .unset, .unset, .unset, .unset] [])
            obtain ⟨T29, X29, e29, st29⟩ := getS2 X0 hx hZ hown (host := "") (Or.inl (hw _ w_20)) Via.refl e0 (S_aGT.ext O.2) (g := (mkF m 73 #[.val (.int p0), .val (.int o), .val (.int ((p0 &&& (2147483647 : Int32)) % (6 : Int32))), .unset, .unset, .unset, .unset] [])) rfl (hb hby at_73)
            refine Fin.go st29 ?_
            show Fin _ p e below s _ _ _ T29 (mkF m 76 #[.val (.int p0), .val (.int o), .val (.int ((p0 &&& (2147483647 : Int32)) % (6 : Int32))), .unset, .unset, .unset, .unset] [(.ref aGT)])
            refine Fin.go (fun _ k => XS.astoreN X29.here hx rfl (hb hby at_76) rfl rfl (l' := #[.val (.int p0), .val (.int o), .val (.int ((p0 &&& (2147483647 : Int32)) % (6 : Int32))), .val (.ref aGT), .unset, .unset, .unset]) rfl k) ?_
            show Fin _ p e below s _ _ _ T29 (mkF m 77 #[.val (.int p0), .val (.int o), .val (.int ((p0 &&& (2147483647 : Int32)) % (6 : Int32))), .val (.ref aGT), .unset, .unset, .unset] [])
            refine Fin.go (fun _ k => XS.iconst X29.here hx rfl (hb hby at_77) k) ?_
            show Fin _ p e below s _ _ _ T29 (mkF m 78 #[.val (.int p0), .val (.int o), .val (.int ((p0 &&& (2147483647 : Int32)) % (6 : Int32))), .val (.ref aGT), .unset, .unset, .unset] [(.int (1 : Int32))])
            refine Fin.go (fun _ k => XS.istore X29.here hx rfl (hb hby at_78) rfl (l' := #[.val (.int p0), .val (.int o), .val (.int ((p0 &&& (2147483647 : Int32)) % (6 : Int32))), .val (.ref aGT), .val (.int (1 : Int32)), .unset, .unset]) rfl k) ?_
            show Fin _ p e below s _ _ _ T29 (mkF m 80 #[.val (.int p0), .val (.int o), .val (.int ((p0 &&& (2147483647 : Int32)) % (6 : Int32))), .val (.ref aGT), .val (.int (1 : Int32)), .unset, .unset] [])
            refine Fin.go (fun _ k => XS.goto X29.here hx rfl (pc0 := 80) (pc' := 90) rfl (hb hby at_80) (by decide) (by decide) k) ?_
            show Fin _ p e below s _ _ _ T29 (mkF m 90 #[.val (.int p0), .val (.int o), .val (.int ((p0 &&& (2147483647 : Int32)) % (6 : Int32))), .val (.ref aGT), .val (.int (1 : Int32)), .unset, .unset] [])
            refine Fin.go (fun _ k => XS.iloadN X29.here hx rfl (hb hby at_90) rfl k) ?_
            show Fin _ p e below s _ _ _ T29 (mkF m 91 #[.val (.int p0), .val (.int o), .val (.int ((p0 &&& (2147483647 : Int32)) % (6 : Int32))), .val (.ref aGT), .val (.int (1 : Int32)), .unset, .unset] [(.int o)])
            by_cases c91 : o < 0
            · refine Fin.go (fun _ k => XS.ifNo X29.here hx rfl (hb hby at_91) rfl (XT.i0_ge_f c91) k) ?_
              show Fin _ p e below s _ _ _ T29 (mkF m 94 #[.val (.int p0), .val (.int o), .val (.int ((p0 &&& (2147483647 : Int32)) % (6 : Int32))), .val (.ref aGT), .val (.int (1 : Int32)), .unset, .unset] [])
              refine Fin.go (fun _ k => XS.iconst X29.here hx rfl (hb hby at_94) k) ?_
              show Fin _ p e below s _ _ _ T29 (mkF m 95 #[.val (.int p0), .val (.int o), .val (.int ((p0 &&& (2147483647 : Int32)) % (6 : Int32))), .val (.ref aGT), .val (.int (1 : Int32)), .unset, .unset] [(.int (4 : Int32))])
              refine Fin.go (fun _ k => XS.istore X29.here hx rfl (hb hby at_95) rfl (l' := #[.val (.int p0), .val (.int o), .val (.int ((p0 &&& (2147483647 : Int32)) % (6 : Int32))), .val (.ref aGT), .val (.int (1 : Int32)), .val (.int (4 : Int32)), .unset]) rfl k) ?_
              show Fin _ p e below s _ _ _ T29 (mkF m 97 #[.val (.int p0), .val (.int o), .val (.int ((p0 &&& (2147483647 : Int32)) % (6 : Int32))), .val (.ref aGT), .val (.int (1 : Int32)), .val (.int (4 : Int32)), .unset] [])
              refine Fin.go (fun _ k => XS.goto X29.here hx rfl (pc0 := 97) (pc' := 113) rfl (hb hby at_97) (by decide) (by decide) k) ?_
              show Fin _ p e below s _ _ _ T29 (mkF m 113 #[.val (.int p0), .val (.int o), .val (.int ((p0 &&& (2147483647 : Int32)) % (6 : Int32))), .val (.ref aGT), .val (.int (1 : Int32)), .val (.int (4 : Int32)), .unset] [])
              refine Fin.go (fun _ k => XS.iload X29.here hx rfl (hb hby at_113) rfl k) ?_
              show Fin _ p e below s _ _ _ T29 (mkF m 115 #[.val (.int p0), .val (.int o), .val (.int ((p0 &&& (2147483647 : Int32)) % (6 : Int32))), .val (.ref aGT), .val (.int (1 : Int32)), .val (.int (4 : Int32)), .unset] [(.int (1 : Int32))])
              refine Fin.go (fun _ k => XS.iload X29.here hx rfl (hb hby at_115) rfl k) ?_
              show Fin _ p e below s _ _ _ T29 (mkF m 117 #[.val (.int p0), .val (.int o), .val (.int ((p0 &&& (2147483647 : Int32)) % (6 : Int32))), .val (.ref aGT), .val (.int (1 : Int32)), .val (.int (4 : Int32)), .unset] [(.int (4 : Int32)), (.int (1 : Int32))])
              refine Fin.go (fun _ k => XS.iand X29.here hx rfl (hb hby at_117) rfl k) ?_
              show Fin _ p e below s _ _ _ T29 (mkF m 118 #[.val (.int p0), .val (.int o), .val (.int ((p0 &&& (2147483647 : Int32)) % (6 : Int32))), .val (.ref aGT), .val (.int (1 : Int32)), .val (.int (4 : Int32)), .unset] [(.int ((1 : Int32) &&& (4 : Int32)))])
              refine Fin.go (fun _ k => XS.ifYes X29.here hx rfl (pc0 := 118) (pc' := 125) rfl (hb hby at_118) rfl (XT.i0_eq_t (by decide)) (by decide) (by decide) k) ?_
              show Fin _ p e below s _ _ _ T29 (mkF m 125 #[.val (.int p0), .val (.int o), .val (.int ((p0 &&& (2147483647 : Int32)) % (6 : Int32))), .val (.ref aGT), .val (.int (1 : Int32)), .val (.int (4 : Int32)), .unset] [])
              refine Fin.go (fun _ k => XS.iconst X29.here hx rfl (hb hby at_125) k) ?_
              show Fin _ p e below s _ _ _ T29 (mkF m 126 #[.val (.int p0), .val (.int o), .val (.int ((p0 &&& (2147483647 : Int32)) % (6 : Int32))), .val (.ref aGT), .val (.int (1 : Int32)), .val (.int (4 : Int32)), .unset] [(.int (0 : Int32))])
              refine Fin.go (fun _ k => XS.istore X29.here hx rfl (hb hby at_126) rfl (l' := #[.val (.int p0), .val (.int o), .val (.int ((p0 &&& (2147483647 : Int32)) % (6 : Int32))), .val (.ref aGT), .val (.int (1 : Int32)), .val (.int (4 : Int32)), .val (.int (0 : Int32))]) rfl k) ?_
              show Fin _ p e below s _ _ _ T29 (mkF m 128 #[.val (.int p0), .val (.int o), .val (.int ((p0 &&& (2147483647 : Int32)) % (6 : Int32))), .val (.ref aGT), .val (.int (1 : Int32)), .val (.int (4 : Int32)), .val (.int (0 : Int32))] [])
              refine Fin.go (fun _ k => XS.aloadN X29.here hx rfl (hb hby at_128) rfl rfl k) ?_
              show Fin _ p e below s _ _ _ T29 (mkF m 129 #[.val (.int p0), .val (.int o), .val (.int ((p0 &&& (2147483647 : Int32)) % (6 : Int32))), .val (.ref aGT), .val (.int (1 : Int32)), .val (.int (4 : Int32)), .val (.int (0 : Int32))] [(.ref aGT)])
              refine Fin.go (fun _ k => XS.iloadN X29.here hx rfl (hb hby at_129) rfl k) ?_
              show Fin _ p e below s _ _ _ T29 (mkF m 130 #[.val (.int p0), .val (.int o), .val (.int ((p0 &&& (2147483647 : Int32)) % (6 : Int32))), .val (.ref aGT), .val (.int (1 : Int32)), .val (.int (4 : Int32)), .val (.int (0 : Int32))] [(.int o), (.ref aGT)])
              have r30 := rmH4 l Z a0 hw n0 h0 O aGT o (A_aGT.ext O.2) (F_aGT.ext O.2)
              rw [sg_n c91] at r30
              obtain ⟨v31, T31, L31, X31, q31, st31⟩ := callVt X29 hx hZ (y := (⟨"com/example/grantwell/grantwell/catalog/Condition$Operator", "holdsFor", "(I)Z"⟩ : MethodName)) hown (hw _ w_4) (hw _ w_5) (hw _ w_7) (hw _ w_6) (hw _ w_2) (hw _ w_8) (by decide) (W := 0) (r30) e29 (A_aGT.ext O.2) (by decide) (by decide) (by decide) (by decide) (g := (mkF m 130 #[.val (.int p0), .val (.int o), .val (.int ((p0 &&& (2147483647 : Int32)) % (6 : Int32))), .val (.ref aGT), .val (.int (1 : Int32)), .val (.int (4 : Int32)), .val (.int (0 : Int32))] [(.int o), (.ref aGT)])) rfl (by rw [hml]; rfl) (argsL := [(.int o)]) (rest := []) (lenOf pd_oIcZ rfl) rfl (by show 2 * 0 + _ ≤ _; exact Nat.le_of_eq rfl) (hb hby at_130)
              obtain ⟨rfl, e31, rfl⟩ := q31
              have N31 := Fr.app N0 (Fr.nil n0)
              refine Fin.go st31 ?_
              show Fin _ p e below s _ _ _ T31 (mkF m 133 #[.val (.int p0), .val (.int o), .val (.int ((p0 &&& (2147483647 : Int32)) % (6 : Int32))), .val (.ref aGT), .val (.int (1 : Int32)), .val (.int (4 : Int32)), .val (.int (0 : Int32))] [(.int (0 : Int32))])
              refine Fin.go (fun _ k => XS.iload X31.here hx rfl (hb hby at_133) rfl k) ?_
              show Fin _ p e below s _ _ _ T31 (mkF m 135 #[.val (.int p0), .val (.int o), .val (.int ((p0 &&& (2147483647 : Int32)) % (6 : Int32))), .val (.ref aGT), .val (.int (1 : Int32)), .val (.int (4 : Int32)), .val (.int (0 : Int32))] [(.int (0 : Int32)), (.int (0 : Int32))])
              refine Fin.go (fun _ k => XS.icmpNo X31.here hx rfl (hb hby at_135) rfl (XT.ii_ne_f (by decide)) k) ?_
              show Fin _ p e below s _ _ _ T31 (mkF m 138 #[.val (.int p0), .val (.int o), .val (.int ((p0 &&& (2147483647 : Int32)) % (6 : Int32))), .val (.ref aGT), .val (.int (1 : Int32)), .val (.int (4 : Int32)), .val (.int (0 : Int32))] [])
              refine Fin.go (fun _ k => XS.iconst X31.here hx rfl (hb hby at_138) k) ?_
              show Fin _ p e below s _ _ _ T31 (mkF m 139 #[.val (.int p0), .val (.int o), .val (.int ((p0 &&& (2147483647 : Int32)) % (6 : Int32))), .val (.ref aGT), .val (.int (1 : Int32)), .val (.int (4 : Int32)), .val (.int (0 : Int32))] [(.int (1 : Int32))])
              refine Fin.go (fun _ k => XS.goto X31.here hx rfl (pc0 := 139) (pc' := 143) rfl (hb hby at_139) (by decide) (by decide) k) ?_
              show Fin _ p e below s _ _ _ T31 (mkF m 143 #[.val (.int p0), .val (.int o), .val (.int ((p0 &&& (2147483647 : Int32)) % (6 : Int32))), .val (.ref aGT), .val (.int (1 : Int32)), .val (.int (4 : Int32)), .val (.int (0 : Int32))] [(.int (1 : Int32))])
              exact Fin.leaveN X31 e31 hlk (v := some (.int (nar .boolean (1 : Int32)))) (fun h => by rw [hret] at h; cases h) (by decide) (by decide) ⟨rfl, N31⟩ (fun fs hr => retN X31 hx (t := .boolean) hret (by simp) (hb hby at_143) hr)
            · refine Fin.go (fun _ k => XS.ifYes X29.here hx rfl (pc0 := 91) (pc' := 100) rfl (hb hby at_91) rfl (XT.i0_ge_t c91) (by decide) (by decide) k) ?_
              show Fin _ p e below s _ _ _ T29 (mkF m 100 #[.val (.int p0), .val (.int o), .val (.int ((p0 &&& (2147483647 : Int32)) % (6 : Int32))), .val (.ref aGT), .val (.int (1 : Int32)), .unset, .unset] [])
              refine Fin.go (fun _ k => XS.iloadN X29.here hx rfl (hb hby at_100) rfl k) ?_
              show Fin _ p e below s _ _ _ T29 (mkF m 101 #[.val (.int p0), .val (.int o), .val (.int ((p0 &&& (2147483647 : Int32)) % (6 : Int32))), .val (.ref aGT), .val (.int (1 : Int32)), .unset, .unset] [(.int o)])
              by_cases c101 : o = 0
              · refine Fin.go (fun _ k => XS.ifNo X29.here hx rfl (hb hby at_101) rfl (XT.i0_ne_f c101) k) ?_
                show Fin _ p e below s _ _ _ T29 (mkF m 104 #[.val (.int p0), .val (.int o), .val (.int ((p0 &&& (2147483647 : Int32)) % (6 : Int32))), .val (.ref aGT), .val (.int (1 : Int32)), .unset, .unset] [])
                refine Fin.go (fun _ k => XS.iconst X29.here hx rfl (hb hby at_104) k) ?_
                show Fin _ p e below s _ _ _ T29 (mkF m 105 #[.val (.int p0), .val (.int o), .val (.int ((p0 &&& (2147483647 : Int32)) % (6 : Int32))), .val (.ref aGT), .val (.int (1 : Int32)), .unset, .unset] [(.int (2 : Int32))])
                refine Fin.go (fun _ k => XS.istore X29.here hx rfl (hb hby at_105) rfl (l' := #[.val (.int p0), .val (.int o), .val (.int ((p0 &&& (2147483647 : Int32)) % (6 : Int32))), .val (.ref aGT), .val (.int (1 : Int32)), .val (.int (2 : Int32)), .unset]) rfl k) ?_
                show Fin _ p e below s _ _ _ T29 (mkF m 107 #[.val (.int p0), .val (.int o), .val (.int ((p0 &&& (2147483647 : Int32)) % (6 : Int32))), .val (.ref aGT), .val (.int (1 : Int32)), .val (.int (2 : Int32)), .unset] [])
                refine Fin.go (fun _ k => XS.goto X29.here hx rfl (pc0 := 107) (pc' := 113) rfl (hb hby at_107) (by decide) (by decide) k) ?_
                show Fin _ p e below s _ _ _ T29 (mkF m 113 #[.val (.int p0), .val (.int o), .val (.int ((p0 &&& (2147483647 : Int32)) % (6 : Int32))), .val (.ref aGT), .val (.int (1 : Int32)), .val (.int (2 : Int32)), .unset] [])
                refine Fin.go (fun _ k => XS.iload X29.here hx rfl (hb hby at_113) rfl k) ?_
                show Fin _ p e below s _ _ _ T29 (mkF m 115 #[.val (.int p0), .val (.int o), .val (.int ((p0 &&& (2147483647 : Int32)) % (6 : Int32))), .val (.ref aGT), .val (.int (1 : Int32)), .val (.int (2 : Int32)), .unset] [(.int (1 : Int32))])
                refine Fin.go (fun _ k => XS.iload X29.here hx rfl (hb hby at_115) rfl k) ?_
                show Fin _ p e below s _ _ _ T29 (mkF m 117 #[.val (.int p0), .val (.int o), .val (.int ((p0 &&& (2147483647 : Int32)) % (6 : Int32))), .val (.ref aGT), .val (.int (1 : Int32)), .val (.int (2 : Int32)), .unset] [(.int (2 : Int32)), (.int (1 : Int32))])
                refine Fin.go (fun _ k => XS.iand X29.here hx rfl (hb hby at_117) rfl k) ?_
                show Fin _ p e below s _ _ _ T29 (mkF m 118 #[.val (.int p0), .val (.int o), .val (.int ((p0 &&& (2147483647 : Int32)) % (6 : Int32))), .val (.ref aGT), .val (.int (1 : Int32)), .val (.int (2 : Int32)), .unset] [(.int ((1 : Int32) &&& (2 : Int32)))])
                refine Fin.go (fun _ k => XS.ifYes X29.here hx rfl (pc0 := 118) (pc' := 125) rfl (hb hby at_118) rfl (XT.i0_eq_t (by decide)) (by decide) (by decide) k) ?_
                show Fin _ p e below s _ _ _ T29 (mkF m 125 #[.val (.int p0), .val (.int o), .val (.int ((p0 &&& (2147483647 : Int32)) % (6 : Int32))), .val (.ref aGT), .val (.int (1 : Int32)), .val (.int (2 : Int32)), .unset] [])
                refine Fin.go (fun _ k => XS.iconst X29.here hx rfl (hb hby at_125) k) ?_
                show Fin _ p e below s _ _ _ T29 (mkF m 126 #[.val (.int p0), .val (.int o), .val (.int ((p0 &&& (2147483647 : Int32)) % (6 : Int32))), .val (.ref aGT), .val (.int (1 : Int32)), .val (.int (2 : Int32)), .unset] [(.int (0 : Int32))])
                refine Fin.go (fun _ k => XS.istore X29.here hx rfl (hb hby at_126) rfl (l' := #[.val (.int p0), .val (.int o), .val (.int ((p0 &&& (2147483647 : Int32)) % (6 : Int32))), .val (.ref aGT), .val (.int (1 : Int32)), .val (.int (2 : Int32)), .val (.int (0 : Int32))]) rfl k) ?_
                show Fin _ p e below s _ _ _ T29 (mkF m 128 #[.val (.int p0), .val (.int o), .val (.int ((p0 &&& (2147483647 : Int32)) % (6 : Int32))), .val (.ref aGT), .val (.int (1 : Int32)), .val (.int (2 : Int32)), .val (.int (0 : Int32))] [])
                refine Fin.go (fun _ k => XS.aloadN X29.here hx rfl (hb hby at_128) rfl rfl k) ?_
                show Fin _ p e below s _ _ _ T29 (mkF m 129 #[.val (.int p0), .val (.int o), .val (.int ((p0 &&& (2147483647 : Int32)) % (6 : Int32))), .val (.ref aGT), .val (.int (1 : Int32)), .val (.int (2 : Int32)), .val (.int (0 : Int32))] [(.ref aGT)])
                refine Fin.go (fun _ k => XS.iloadN X29.here hx rfl (hb hby at_129) rfl k) ?_
                show Fin _ p e below s _ _ _ T29 (mkF m 130 #[.val (.int p0), .val (.int o), .val (.int ((p0 &&& (2147483647 : Int32)) % (6 : Int32))), .val (.ref aGT), .val (.int (1 : Int32)), .val (.int (2 : Int32)), .val (.int (0 : Int32))] [(.int o), (.ref aGT)])
                have r32 := rmH4 l Z a0 hw n0 h0 O aGT o (A_aGT.ext O.2) (F_aGT.ext O.2)
                rw [sg_z c91 c101] at r32
                obtain ⟨v33, T33, L33, X33, q33, st33⟩ := callVt X29 hx hZ (y := (⟨"com/example/grantwell/grantwell/catalog/Condition$Operator", "holdsFor", "(I)Z"⟩ : MethodName)) hown (hw _ w_4) (hw _ w_5) (hw _ w_7) (hw _ w_6) (hw _ w_2) (hw _ w_8) (by decide) (W := 0) (r32) e29 (A_aGT.ext O.2) (by decide) (by decide) (by decide) (by decide) (g := (mkF m 130 #[.val (.int p0), .val (.int o), .val (.int ((p0 &&& (2147483647 : Int32)) % (6 : Int32))), .val (.ref aGT), .val (.int (1 : Int32)), .val (.int (2 : Int32)), .val (.int (0 : Int32))] [(.int o), (.ref aGT)])) rfl (by rw [hml]; rfl) (argsL := [(.int o)]) (rest := []) (lenOf pd_oIcZ rfl) rfl (by show 2 * 0 + _ ≤ _; exact Nat.le_of_eq rfl) (hb hby at_130)
                obtain ⟨rfl, e33, rfl⟩ := q33
                have N33 := Fr.app N0 (Fr.nil n0)
                refine Fin.go st33 ?_
                show Fin _ p e below s _ _ _ T33 (mkF m 133 #[.val (.int p0), .val (.int o), .val (.int ((p0 &&& (2147483647 : Int32)) % (6 : Int32))), .val (.ref aGT), .val (.int (1 : Int32)), .val (.int (2 : Int32)), .val (.int (0 : Int32))] [(.int (0 : Int32))])
                refine Fin.go (fun _ k => XS.iload X33.here hx rfl (hb hby at_133) rfl k) ?_
                show Fin _ p e below s _ _ _ T33 (mkF m 135 #[.val (.int p0), .val (.int o), .val (.int ((p0 &&& (2147483647 : Int32)) % (6 : Int32))), .val (.ref aGT), .val (.int (1 : Int32)), .val (.int (2 : Int32)), .val (.int (0 : Int32))] [(.int (0 : Int32)), (.int (0 : Int32))])
                refine Fin.go (fun _ k => XS.icmpNo X33.here hx rfl (hb hby at_135) rfl (XT.ii_ne_f (by decide)) k) ?_
                show Fin _ p e below s _ _ _ T33 (mkF m 138 #[.val (.int p0), .val (.int o), .val (.int ((p0 &&& (2147483647 : Int32)) % (6 : Int32))), .val (.ref aGT), .val (.int (1 : Int32)), .val (.int (2 : Int32)), .val (.int (0 : Int32))] [])
                refine Fin.go (fun _ k => XS.iconst X33.here hx rfl (hb hby at_138) k) ?_
                show Fin _ p e below s _ _ _ T33 (mkF m 139 #[.val (.int p0), .val (.int o), .val (.int ((p0 &&& (2147483647 : Int32)) % (6 : Int32))), .val (.ref aGT), .val (.int (1 : Int32)), .val (.int (2 : Int32)), .val (.int (0 : Int32))] [(.int (1 : Int32))])
                refine Fin.go (fun _ k => XS.goto X33.here hx rfl (pc0 := 139) (pc' := 143) rfl (hb hby at_139) (by decide) (by decide) k) ?_
                show Fin _ p e below s _ _ _ T33 (mkF m 143 #[.val (.int p0), .val (.int o), .val (.int ((p0 &&& (2147483647 : Int32)) % (6 : Int32))), .val (.ref aGT), .val (.int (1 : Int32)), .val (.int (2 : Int32)), .val (.int (0 : Int32))] [(.int (1 : Int32))])
                exact Fin.leaveN X33 e33 hlk (v := some (.int (nar .boolean (1 : Int32)))) (fun h => by rw [hret] at h; cases h) (by decide) (by decide) ⟨rfl, N33⟩ (fun fs hr => retN X33 hx (t := .boolean) hret (by simp) (hb hby at_143) hr)
              · refine Fin.go (fun _ k => XS.ifYes X29.here hx rfl (pc0 := 101) (pc' := 110) rfl (hb hby at_101) rfl (XT.i0_ne_t c101) (by decide) (by decide) k) ?_
                show Fin _ p e below s _ _ _ T29 (mkF m 110 #[.val (.int p0), .val (.int o), .val (.int ((p0 &&& (2147483647 : Int32)) % (6 : Int32))), .val (.ref aGT), .val (.int (1 : Int32)), .unset, .unset] [])
                refine Fin.go (fun _ k => XS.iconst X29.here hx rfl (hb hby at_110) k) ?_
                show Fin _ p e below s _ _ _ T29 (mkF m 111 #[.val (.int p0), .val (.int o), .val (.int ((p0 &&& (2147483647 : Int32)) % (6 : Int32))), .val (.ref aGT), .val (.int (1 : Int32)), .unset, .unset] [(.int (1 : Int32))])
                refine Fin.go (fun _ k => XS.istore X29.here hx rfl (hb hby at_111) rfl (l' := #[.val (.int p0), .val (.int o), .val (.int ((p0 &&& (2147483647 : Int32)) % (6 : Int32))), .val (.ref aGT), .val (.int (1 : Int32)), .val (.int (1 : Int32)), .unset]) rfl k) ?_
                show Fin _ p e below s _ _ _ T29 (mkF m 113 #[.val (.int p0), .val (.int o), .val (.int ((p0 &&& (2147483647 : Int32)) % (6 : Int32))), .val (.ref aGT), .val (.int (1 : Int32)), .val (.int (1 : Int32)), .unset] [])
                refine Fin.go (fun _ k => XS.iload X29.here hx rfl (hb hby at_113) rfl k) ?_
                show Fin _ p e below s _ _ _ T29 (mkF m 115 #[.val (.int p0), .val (.int o), .val (.int ((p0 &&& (2147483647 : Int32)) % (6 : Int32))), .val (.ref aGT), .val (.int (1 : Int32)), .val (.int (1 : Int32)), .unset] [(.int (1 : Int32))])
                refine Fin.go (fun _ k => XS.iload X29.here hx rfl (hb hby at_115) rfl k) ?_
                show Fin _ p e below s _ _ _ T29 (mkF m 117 #[.val (.int p0), .val (.int o), .val (.int ((p0 &&& (2147483647 : Int32)) % (6 : Int32))), .val (.ref aGT), .val (.int (1 : Int32)), .val (.int (1 : Int32)), .unset] [(.int (1 : Int32)), (.int (1 : Int32))])
                refine Fin.go (fun _ k => XS.iand X29.here hx rfl (hb hby at_117) rfl k) ?_
                show Fin _ p e below s _ _ _ T29 (mkF m 118 #[.val (.int p0), .val (.int o), .val (.int ((p0 &&& (2147483647 : Int32)) % (6 : Int32))), .val (.ref aGT), .val (.int (1 : Int32)), .val (.int (1 : Int32)), .unset] [(.int ((1 : Int32) &&& (1 : Int32)))])
                refine Fin.go (fun _ k => XS.ifNo X29.here hx rfl (hb hby at_118) rfl (XT.i0_eq_f (by decide)) k) ?_
                show Fin _ p e below s _ _ _ T29 (mkF m 121 #[.val (.int p0), .val (.int o), .val (.int ((p0 &&& (2147483647 : Int32)) % (6 : Int32))), .val (.ref aGT), .val (.int (1 : Int32)), .val (.int (1 : Int32)), .unset] [])
                refine Fin.go (fun _ k => XS.iconst X29.here hx rfl (hb hby at_121) k) ?_
                show Fin _ p e below s _ _ _ T29 (mkF m 122 #[.val (.int p0), .val (.int o), .val (.int ((p0 &&& (2147483647 : Int32)) % (6 : Int32))), .val (.ref aGT), .val (.int (1 : Int32)), .val (.int (1 : Int32)), .unset] [(.int (1 : Int32))])
                refine Fin.go (fun _ k => XS.goto X29.here hx rfl (pc0 := 122) (pc' := 126) rfl (hb hby at_122) (by decide) (by decide) k) ?_
                show Fin _ p e below s _ _ _ T29 (mkF m 126 #[.val (.int p0), .val (.int o), .val (.int ((p0 &&& (2147483647 : Int32)) % (6 : Int32))), .val (.ref aGT), .val (.int (1 : Int32)), .val (.int (1 : Int32)), .unset] [(.int (1 : Int32))])
                refine Fin.go (fun _ k => XS.istore X29.here hx rfl (hb hby at_126) rfl (l' := #[.val (.int p0), .val (.int o), .val (.int ((p0 &&& (2147483647 : Int32)) % (6 : Int32))), .val (.ref aGT), .val (.int (1 : Int32)), .val (.int (1 : Int32)), .val (.int (1 : Int32))]) rfl k) ?_
                show Fin _ p e below s _ _ _ T29 (mkF m 128 #[.val (.int p0), .val (.int o), .val (.int ((p0 &&& (2147483647 : Int32)) % (6 : Int32))), .val (.ref aGT), .val (.int (1 : Int32)), .val (.int (1 : Int32)), .val (.int (1 : Int32))] [])
                refine Fin.go (fun _ k => XS.aloadN X29.here hx rfl (hb hby at_128) rfl rfl k) ?_
                show Fin _ p e below s _ _ _ T29 (mkF m 129 #[.val (.int p0), .val (.int o), .val (.int ((p0 &&& (2147483647 : Int32)) % (6 : Int32))), .val (.ref aGT), .val (.int (1 : Int32)), .val (.int (1 : Int32)), .val (.int (1 : Int32))] [(.ref aGT)])
                refine Fin.go (fun _ k => XS.iloadN X29.here hx rfl (hb hby at_129) rfl k) ?_
                show Fin _ p e below s _ _ _ T29 (mkF m 130 #[.val (.int p0), .val (.int o), .val (.int ((p0 &&& (2147483647 : Int32)) % (6 : Int32))), .val (.ref aGT), .val (.int (1 : Int32)), .val (.int (1 : Int32)), .val (.int (1 : Int32))] [(.int o), (.ref aGT)])
                have r34 := rmH4 l Z a0 hw n0 h0 O aGT o (A_aGT.ext O.2) (F_aGT.ext O.2)
                rw [sg_p c91 c101] at r34
                obtain ⟨v35, T35, L35, X35, q35, st35⟩ := callVt X29 hx hZ (y := (⟨"com/example/grantwell/grantwell/catalog/Condition$Operator", "holdsFor", "(I)Z"⟩ : MethodName)) hown (hw _ w_4) (hw _ w_5) (hw _ w_7) (hw _ w_6) (hw _ w_2) (hw _ w_8) (by decide) (W := 0) (r34) e29 (A_aGT.ext O.2) (by decide) (by decide) (by decide) (by decide) (g := (mkF m 130 #[.val (.int p0), .val (.int o), .val (.int ((p0 &&& (2147483647 : Int32)) % (6 : Int32))), .val (.ref aGT), .val (.int (1 : Int32)), .val (.int (1 : Int32)), .val (.int (1 : Int32))] [(.int o), (.ref aGT)])) rfl (by rw [hml]; rfl) (argsL := [(.int o)]) (rest := []) (lenOf pd_oIcZ rfl) rfl (by show 2 * 0 + _ ≤ _; exact Nat.le_of_eq rfl) (hb hby at_130)
                obtain ⟨rfl, e35, rfl⟩ := q35
                have N35 := Fr.app N0 (Fr.nil n0)
                refine Fin.go st35 ?_
                show Fin _ p e below s _ _ _ T35 (mkF m 133 #[.val (.int p0), .val (.int o), .val (.int ((p0 &&& (2147483647 : Int32)) % (6 : Int32))), .val (.ref aGT), .val (.int (1 : Int32)), .val (.int (1 : Int32)), .val (.int (1 : Int32))] [(.int (1 : Int32))])
                refine Fin.go (fun _ k => XS.iload X35.here hx rfl (hb hby at_133) rfl k) ?_
                show Fin _ p e below s _ _ _ T35 (mkF m 135 #[.val (.int p0), .val (.int o), .val (.int ((p0 &&& (2147483647 : Int32)) % (6 : Int32))), .val (.ref aGT), .val (.int (1 : Int32)), .val (.int (1 : Int32)), .val (.int (1 : Int32))] [(.int (1 : Int32)), (.int (1 : Int32))])
                refine Fin.go (fun _ k => XS.icmpNo X35.here hx rfl (hb hby at_135) rfl (XT.ii_ne_f (by decide)) k) ?_
                show Fin _ p e below s _ _ _ T35 (mkF m 138 #[.val (.int p0), .val (.int o), .val (.int ((p0 &&& (2147483647 : Int32)) % (6 : Int32))), .val (.ref aGT), .val (.int (1 : Int32)), .val (.int (1 : Int32)), .val (.int (1 : Int32))] [])
                refine Fin.go (fun _ k => XS.iconst X35.here hx rfl (hb hby at_138) k) ?_
                show Fin _ p e below s _ _ _ T35 (mkF m 139 #[.val (.int p0), .val (.int o), .val (.int ((p0 &&& (2147483647 : Int32)) % (6 : Int32))), .val (.ref aGT), .val (.int (1 : Int32)), .val (.int (1 : Int32)), .val (.int (1 : Int32))] [(.int (1 : Int32))])
                refine Fin.go (fun _ k => XS.goto X35.here hx rfl (pc0 := 139) (pc' := 143) rfl (hb hby at_139) (by decide) (by decide) k) ?_
                show Fin _ p e below s _ _ _ T35 (mkF m 143 #[.val (.int p0), .val (.int o), .val (.int ((p0 &&& (2147483647 : Int32)) % (6 : Int32))), .val (.ref aGT), .val (.int (1 : Int32)), .val (.int (1 : Int32)), .val (.int (1 : Int32))] [(.int (1 : Int32))])
                exact Fin.leaveN X35 e35 hlk (v := some (.int (nar .boolean (1 : Int32)))) (fun h => by rw [hret] at h; cases h) (by decide) (by decide) ⟨rfl, N35⟩ (fun fs hr => retN X35 hx (t := .boolean) hret (by simp) (hb hby at_143) hr)
          · refine Fin.go (fun _ k => XS.icmpYes X0.here hx rfl (pc0 := 70) (pc' := 83) rfl (hb hby at_70) rfl (XT.ii_ne_t c70) (by decide) (by decide) k) ?_
            show Fin _ p e below s _ _ _ s₁ (mkF m 83 #[.val (.int p0), .val (.int o), .val (.int ((p0 &&& (2147483647 : Int32)) % (6 : Int32))), .unset, .unset, .unset, .unset] [])
            obtain ⟨T36, X36, e36, st36⟩ := getS2 X0 hx hZ hown (host := "") (Or.inl (hw _ w_24)) Via.refl e0 (S_aGE.ext O.2) (g := (mkF m 83 #[.val (.int p0), .val (.int o), .val (.int ((p0 &&& (2147483647 : Int32)) % (6 : Int32))), .unset, .unset, .unset, .unset] [])) rfl (hb hby at_83)
            refine Fin.go st36 ?_
            show Fin _ p e below s _ _ _ T36 (mkF m 86 #[.val (.int p0), .val (.int o), .val (.int ((p0 &&& (2147483647 : Int32)) % (6 : Int32))), .unset, .unset, .unset, .unset] [(.ref aGE)])
            refine Fin.go (fun _ k => XS.astoreN X36.here hx rfl (hb hby at_86) rfl rfl (l' := #[.val (.int p0), .val (.int o), .val (.int ((p0 &&& (2147483647 : Int32)) % (6 : Int32))), .val (.ref aGE), .unset, .unset, .unset]) rfl k) ?_
            show Fin _ p e below s _ _ _ T36 (mkF m 87 #[.val (.int p0), .val (.int o), .val (.int ((p0 &&& (2147483647 : Int32)) % (6 : Int32))), .val (.ref aGE), .unset, .unset, .unset] [])
            refine Fin.go (fun _ k => XS.iconst X36.here hx rfl (hb hby at_87) k) ?_
            show Fin _ p e below s _ _ _ T36 (mkF m 88 #[.val (.int p0), .val (.int o), .val (.int ((p0 &&& (2147483647 : Int32)) % (6 : Int32))), .val (.ref aGE), .unset, .unset, .unset] [(.int (3 : Int32))])
            refine Fin.go (fun _ k => XS.istore X36.here hx rfl (hb hby at_88) rfl (l' := #[.val (.int p0), .val (.int o), .val (.int ((p0 &&& (2147483647 : Int32)) % (6 : Int32))), .val (.ref aGE), .val (.int (3 : Int32)), .unset, .unset]) rfl k) ?_
            show Fin _ p e below s _ _ _ T36 (mkF m 90 #[.val (.int p0), .val (.int o), .val (.int ((p0 &&& (2147483647 : Int32)) % (6 : Int32))), .val (.ref aGE), .val (.int (3 : Int32)), .unset, .unset] [])
            refine Fin.go (fun _ k => XS.iloadN X36.here hx rfl (hb hby at_90) rfl k) ?_
            show Fin _ p e below s _ _ _ T36 (mkF m 91 #[.val (.int p0), .val (.int o), .val (.int ((p0 &&& (2147483647 : Int32)) % (6 : Int32))), .val (.ref aGE), .val (.int (3 : Int32)), .unset, .unset] [(.int o)])
            by_cases c91 : o < 0
            · refine Fin.go (fun _ k => XS.ifNo X36.here hx rfl (hb hby at_91) rfl (XT.i0_ge_f c91) k) ?_
              show Fin _ p e below s _ _ _ T36 (mkF m 94 #[.val (.int p0), .val (.int o), .val (.int ((p0 &&& (2147483647 : Int32)) % (6 : Int32))), .val (.ref aGE), .val (.int (3 : Int32)), .unset, .unset] [])
              refine Fin.go (fun _ k => XS.iconst X36.here hx rfl (hb hby at_94) k) ?_
              show Fin _ p e below s _ _ _ T36 (mkF m 95 #[.val (.int p0), .val (.int o), .val (.int ((p0 &&& (2147483647 : Int32)) % (6 : Int32))), .val (.ref aGE), .val (.int (3 : Int32)), .unset, .unset] [(.int (4 : Int32))])
              refine Fin.go (fun _ k => XS.istore X36.here hx rfl (hb hby at_95) rfl (l' := #[.val (.int p0), .val (.int o), .val (.int ((p0 &&& (2147483647 : Int32)) % (6 : Int32))), .val (.ref aGE), .val (.int (3 : Int32)), .val (.int (4 : Int32)), .unset]) rfl k) ?_
              show Fin _ p e below s _ _ _ T36 (mkF m 97 #[.val (.int p0), .val (.int o), .val (.int ((p0 &&& (2147483647 : Int32)) % (6 : Int32))), .val (.ref aGE), .val (.int (3 : Int32)), .val (.int (4 : Int32)), .unset] [])
              refine Fin.go (fun _ k => XS.goto X36.here hx rfl (pc0 := 97) (pc' := 113) rfl (hb hby at_97) (by decide) (by decide) k) ?_
              show Fin _ p e below s _ _ _ T36 (mkF m 113 #[.val (.int p0), .val (.int o), .val (.int ((p0 &&& (2147483647 : Int32)) % (6 : Int32))), .val (.ref aGE), .val (.int (3 : Int32)), .val (.int (4 : Int32)), .unset] [])
              refine Fin.go (fun _ k => XS.iload X36.here hx rfl (hb hby at_113) rfl k) ?_
              show Fin _ p e below s _ _ _ T36 (mkF m 115 #[.val (.int p0), .val (.int o), .val (.int ((p0 &&& (2147483647 : Int32)) % (6 : Int32))), .val (.ref aGE), .val (.int (3 : Int32)), .val (.int (4 : Int32)), .unset] [(.int (3 : Int32))])
              refine Fin.go (fun _ k => XS.iload X36.here hx rfl (hb hby at_115) rfl k) ?_
              show Fin _ p e below s _ _ _ T36 (mkF m 117 #[.val (.int p0), .val (.int o), .val (.int ((p0 &&& (2147483647 : Int32)) % (6 : Int32))), .val (.ref aGE), .val (.int (3 : Int32)), .val (.int (4 : Int32)), .unset] [(.int (4 : Int32)), (.int (3 : Int32))])
              refine Fin.go (fun _ k => XS.iand X36.here hx rfl (hb hby at_117) rfl k) ?_
              show Fin _ p e below s _ _ _ T36 (mkF m 118 #[.val (.int p0), .val (.int o), .val (.int ((p0 &&& (2147483647 : Int32)) % (6 : Int32))), .val (.ref aGE), .val (.int (3 : Int32)), .val (.int (4 : Int32)), .unset] [(.int ((3 : Int32) &&& (4 : Int32)))])
              refine Fin.go (fun _ k => XS.ifYes X36.here hx rfl (pc0 := 118) (pc' := 125) rfl (hb hby at_118) rfl (XT.i0_eq_t (by decide)) (by decide) (by decide) k) ?_
              show Fin _ p e below s _ _ _ T36 (mkF m 125 #[.val (.int p0), .val (.int o), .val (.int ((p0 &&& (2147483647 : Int32)) % (6 : Int32))), .val (.ref aGE), .val (.int (3 : Int32)), .val (.int (4 : Int32)), .unset] [])
              refine Fin.go (fun _ k => XS.iconst X36.here hx rfl (hb hby at_125) k) ?_
              show Fin _ p e below s _ _ _ T36 (mkF m 126 #[.val (.int p0), .val (.int o), .val (.int ((p0 &&& (2147483647 : Int32)) % (6 : Int32))), .val (.ref aGE), .val (.int (3 : Int32)), .val (.int (4 : Int32)), .unset] [(.int (0 : Int32))])
              refine Fin.go (fun _ k => XS.istore X36.here hx rfl (hb hby at_126) rfl (l' := #[.val (.int p0), .val (.int o), .val (.int ((p0 &&& (2147483647 : Int32)) % (6 : Int32))), .val (.ref aGE), .val (.int (3 : Int32)), .val (.int (4 : Int32)), .val (.int (0 : Int32))]) rfl k) ?_
              show Fin _ p e below s _ _ _ T36 (mkF m 128 #[.val (.int p0), .val (.int o), .val (.int ((p0 &&& (2147483647 : Int32)) % (6 : Int32))), .val (.ref aGE), .val (.int (3 : Int32)), .val (.int (4 : Int32)), .val (.int (0 : Int32))] [])
              refine Fin.go (fun _ k => XS.aloadN X36.here hx rfl (hb hby at_128) rfl rfl k) ?_
              show Fin _ p e below s _ _ _ T36 (mkF m 129 #[.val (.int p0), .val (.int o), .val (.int ((p0 &&& (2147483647 : Int32)) % (6 : Int32))), .val (.ref aGE), .val (.int (3 : Int32)), .val (.int (4 : Int32)), .val (.int (0 : Int32))] [(.ref aGE)])
              refine Fin.go (fun _ k => XS.iloadN X36.here hx rfl (hb hby at_129) rfl k) ?_
              show Fin _ p e below s _ _ _ T36 (mkF m 130 #[.val (.int p0), .val (.int o), .val (.int ((p0 &&& (2147483647 : Int32)) % (6 : Int32))), .val (.ref aGE), .val (.int (3 : Int32)), .val (.int (4 : Int32)), .val (.int (0 : Int32))] [(.int o), (.ref aGE)])
              have r37 := rmH5 l Z a0 hw n0 h0 O aGE o (A_aGE.ext O.2) (F_aGE.ext O.2)
              rw [sg_n c91] at r37
              obtain ⟨v38, T38, L38, X38, q38, st38⟩ := callVt X36 hx hZ (y := (⟨"com/example/grantwell/grantwell/catalog/Condition$Operator", "holdsFor", "(I)Z"⟩ : MethodName)) hown (hw _ w_4) (hw _ w_5) (hw _ w_7) (hw _ w_6) (hw _ w_2) (hw _ w_8) (by decide) (W := 0) (r37) e36 (A_aGE.ext O.2) (by decide) (by decide) (by decide) (by decide) (g := (mkF m 130 #[.val (.int p0), .val (.int o), .val (.int ((p0 &&& (2147483647 : Int32)) % (6 : Int32))), .val (.ref aGE), .val (.int (3 : Int32)), .val (.int (4 : Int32)), .val (.int (0 : Int32))] [(.int o), (.ref aGE)])) rfl (by rw [hml]; rfl) (argsL := [(.int o)]) (rest := []) (lenOf pd_oIcZ rfl) rfl (by show 2 * 0 + _ ≤ _; exact Nat.le_of_eq rfl) (hb hby at_130)
              obtain ⟨rfl, e38, rfl⟩ := q38
              have N38 := Fr.app N0 (Fr.nil n0)
              refine Fin.go st38 ?_
              show Fin _ p e below s _ _ _ T38 (mkF m 133 #[.val (.int p0), .val (.int o), .val (.int ((p0 &&& (2147483647 : Int32)) % (6 : Int32))), .val (.ref aGE), .val (.int (3 : Int32)), .val (.int (4 : Int32)), .val (.int (0 : Int32))] [(.int (0 : Int32))])
              refine Fin.go (fun _ k => XS.iload X38.here hx rfl (hb hby at_133) rfl k) ?_
              show Fin _ p e below s _ _ _ T38 (mkF m 135 #[.val (.int p0), .val (.int o), .val (.int ((p0 &&& (2147483647 : Int32)) % (6 : Int32))), .val (.ref aGE), .val (.int (3 : Int32)), .val (.int (4 : Int32)), .val (.int (0 : Int32))] [(.int (0 : Int32)), (.int (0 : Int32))])
              refine Fin.go (fun _ k => XS.icmpNo X38.here hx rfl (hb hby at_135) rfl (XT.ii_ne_f (by decide)) k) ?_
              show Fin _ p e below s _ _ _ T38 (mkF m 138 #[.val (.int p0), .val (.int o), .val (.int ((p0 &&& (2147483647 : Int32)) % (6 : Int32))), .val (.ref aGE), .val (.int (3 : Int32)), .val (.int (4 : Int32)), .val (.int (0 : Int32))] [])
              refine Fin.go (fun _ k => XS.iconst X38.here hx rfl (hb hby at_138) k) ?_
              show Fin _ p e below s _ _ _ T38 (mkF m 139 #[.val (.int p0), .val (.int o), .val (.int ((p0 &&& (2147483647 : Int32)) % (6 : Int32))), .val (.ref aGE), .val (.int (3 : Int32)), .val (.int (4 : Int32)), .val (.int (0 : Int32))] [(.int (1 : Int32))])
              refine Fin.go (fun _ k => XS.goto X38.here hx rfl (pc0 := 139) (pc' := 143) rfl (hb hby at_139) (by decide) (by decide) k) ?_
              show Fin _ p e below s _ _ _ T38 (mkF m 143 #[.val (.int p0), .val (.int o), .val (.int ((p0 &&& (2147483647 : Int32)) % (6 : Int32))), .val (.ref aGE), .val (.int (3 : Int32)), .val (.int (4 : Int32)), .val (.int (0 : Int32))] [(.int (1 : Int32))])
              exact Fin.leaveN X38 e38 hlk (v := some (.int (nar .boolean (1 : Int32)))) (fun h => by rw [hret] at h; cases h) (by decide) (by decide) ⟨rfl, N38⟩ (fun fs hr => retN X38 hx (t := .boolean) hret (by simp) (hb hby at_143) hr)
            · refine Fin.go (fun _ k => XS.ifYes X36.here hx rfl (pc0 := 91) (pc' := 100) rfl (hb hby at_91) rfl (XT.i0_ge_t c91) (by decide) (by decide) k) ?_
              show Fin _ p e below s _ _ _ T36 (mkF m 100 #[.val (.int p0), .val (.int o), .val (.int ((p0 &&& (2147483647 : Int32)) % (6 : Int32))), .val (.ref aGE), .val (.int (3 : Int32)), .unset, .unset] [])
              refine Fin.go (fun _ k => XS.iloadN X36.here hx rfl (hb hby at_100) rfl k) ?_
              show Fin _ p e below s _ _ _ T36 (mkF m 101 #[.val (.int p0), .val (.int o), .val (.int ((p0 &&& (2147483647 : Int32)) % (6 : Int32))), .val (.ref aGE), .val (.int (3 : Int32)), .unset, .unset] [(.int o)])
              by_cases c101 : o = 0
              · refine Fin.go (fun _ k => XS.ifNo X36.here hx rfl (hb hby at_101) rfl (XT.i0_ne_f c101) k) ?_
                show Fin _ p e below s _ _ _ T36 (mkF m 104 #[.val (.int p0), .val (.int o), .val (.int ((p0 &&& (2147483647 : Int32)) % (6 : Int32))), .val (.ref aGE), .val (.int (3 : Int32)), .unset, .unset] [])
                refine Fin.go (fun _ k => XS.iconst X36.here hx rfl (hb hby at_104) k) ?_
                show Fin _ p e below s _ _ _ T36 (mkF m 105 #[.val (.int p0), .val (.int o), .val (.int ((p0 &&& (2147483647 : Int32)) % (6 : Int32))), .val (.ref aGE), .val (.int (3 : Int32)), .unset, .unset] [(.int (2 : Int32))])
                refine Fin.go (fun _ k => XS.istore X36.here hx rfl (hb hby at_105) rfl (l' := #[.val (.int p0), .val (.int o), .val (.int ((p0 &&& (2147483647 : Int32)) % (6 : Int32))), .val (.ref aGE), .val (.int (3 : Int32)), .val (.int (2 : Int32)), .unset]) rfl k) ?_
                show Fin _ p e below s _ _ _ T36 (mkF m 107 #[.val (.int p0), .val (.int o), .val (.int ((p0 &&& (2147483647 : Int32)) % (6 : Int32))), .val (.ref aGE), .val (.int (3 : Int32)), .val (.int (2 : Int32)), .unset] [])
                refine Fin.go (fun _ k => XS.goto X36.here hx rfl (pc0 := 107) (pc' := 113) rfl (hb hby at_107) (by decide) (by decide) k) ?_
                show Fin _ p e below s _ _ _ T36 (mkF m 113 #[.val (.int p0), .val (.int o), .val (.int ((p0 &&& (2147483647 : Int32)) % (6 : Int32))), .val (.ref aGE), .val (.int (3 : Int32)), .val (.int (2 : Int32)), .unset] [])
                refine Fin.go (fun _ k => XS.iload X36.here hx rfl (hb hby at_113) rfl k) ?_
                show Fin _ p e below s _ _ _ T36 (mkF m 115 #[.val (.int p0), .val (.int o), .val (.int ((p0 &&& (2147483647 : Int32)) % (6 : Int32))), .val (.ref aGE), .val (.int (3 : Int32)), .val (.int (2 : Int32)), .unset] [(.int (3 : Int32))])
                refine Fin.go (fun _ k => XS.iload X36.here hx rfl (hb hby at_115) rfl k) ?_
                show Fin _ p e below s _ _ _ T36 (mkF m 117 #[.val (.int p0), .val (.int o), .val (.int ((p0 &&& (2147483647 : Int32)) % (6 : Int32))), .val (.ref aGE), .val (.int (3 : Int32)), .val (.int (2 : Int32)), .unset] [(.int (2 : Int32)), (.int (3 : Int32))])
                refine Fin.go (fun _ k => XS.iand X36.here hx rfl (hb hby at_117) rfl k) ?_
                show Fin _ p e below s _ _ _ T36 (mkF m 118 #[.val (.int p0), .val (.int o), .val (.int ((p0 &&& (2147483647 : Int32)) % (6 : Int32))), .val (.ref aGE), .val (.int (3 : Int32)), .val (.int (2 : Int32)), .unset] [(.int ((3 : Int32) &&& (2 : Int32)))])
                refine Fin.go (fun _ k => XS.ifNo X36.here hx rfl (hb hby at_118) rfl (XT.i0_eq_f (by decide)) k) ?_
                show Fin _ p e below s _ _ _ T36 (mkF m 121 #[.val (.int p0), .val (.int o), .val (.int ((p0 &&& (2147483647 : Int32)) % (6 : Int32))), .val (.ref aGE), .val (.int (3 : Int32)), .val (.int (2 : Int32)), .unset] [])
                refine Fin.go (fun _ k => XS.iconst X36.here hx rfl (hb hby at_121) k) ?_
                show Fin _ p e below s _ _ _ T36 (mkF m 122 #[.val (.int p0), .val (.int o), .val (.int ((p0 &&& (2147483647 : Int32)) % (6 : Int32))), .val (.ref aGE), .val (.int (3 : Int32)), .val (.int (2 : Int32)), .unset] [(.int (1 : Int32))])
                refine Fin.go (fun _ k => XS.goto X36.here hx rfl (pc0 := 122) (pc' := 126) rfl (hb hby at_122) (by decide) (by decide) k) ?_
                show Fin _ p e below s _ _ _ T36 (mkF m 126 #[.val (.int p0), .val (.int o), .val (.int ((p0 &&& (2147483647 : Int32)) % (6 : Int32))), .val (.ref aGE), .val (.int (3 : Int32)), .val (.int (2 : Int32)), .unset] [(.int (1 : Int32))])
                refine Fin.go (fun _ k => XS.istore X36.here hx rfl (hb hby at_126) rfl (l' := #[.val (.int p0), .val (.int o), .val (.int ((p0 &&& (2147483647 : Int32)) % (6 : Int32))), .val (.ref aGE), .val (.int (3 : Int32)), .val (.int (2 : Int32)), .val (.int (1 : Int32))]) rfl k) ?_
                show Fin _ p e below s _ _ _ T36 (mkF m 128 #[.val (.int p0), .val (.int o), .val (.int ((p0 &&& (2147483647 : Int32)) % (6 : Int32))), .val (.ref aGE), .val (.int (3 : Int32)), .val (.int (2 : Int32)), .val (.int (1 : Int32))] [])
                refine Fin.go (fun _ k => XS.aloadN X36.here hx rfl (hb hby at_128) rfl rfl k) ?_
                show Fin _ p e below s _ _ _ T36 (mkF m 129 #[.val (.int p0), .val (.int o), .val (.int ((p0 &&& (2147483647 : Int32)) % (6 : Int32))), .val (.ref aGE), .val (.int (3 : Int32)), .val (.int (2 : Int32)), .val (.int (1 : Int32))] [(.ref aGE)])
                refine Fin.go (fun _ k => XS.iloadN X36.here hx rfl (hb hby at_129) rfl k) ?_
                show Fin _ p e below s _ _ _ T36 (mkF m 130 #[.val (.int p0), .val (.int o), .val (.int ((p0 &&& (2147483647 : Int32)) % (6 : Int32))), .val (.ref aGE), .val (.int (3 : Int32)), .val (.int (2 : Int32)), .val (.int (1 : Int32))] [(.int o), (.ref aGE)])
                have r39 := rmH5 l Z a0 hw n0 h0 O aGE o (A_aGE.ext O.2) (F_aGE.ext O.2)
                rw [sg_z c91 c101] at r39
                obtain ⟨v40, T40, L40, X40, q40, st40⟩ := callVt X36 hx hZ (y := (⟨"com/example/grantwell/grantwell/catalog/Condition$Operator", "holdsFor", "(I)Z"⟩ : MethodName)) hown (hw _ w_4) (hw _ w_5) (hw _ w_7) (hw _ w_6) (hw _ w_2) (hw _ w_8) (by decide) (W := 0) (r39) e36 (A_aGE.ext O.2) (by decide) (by decide) (by decide) (by decide) (g := (mkF m 130 #[.val (.int p0), .val (.int o), .val (.int ((p0 &&& (2147483647 : Int32)) % (6 : Int32))), .val (.ref aGE), .val (.int (3 : Int32)), .val (.int (2 : Int32)), .val (.int (1 : Int32))] [(.int o), (.ref aGE)])) rfl (by rw [hml]; rfl) (argsL := [(.int o)]) (rest := []) (lenOf pd_oIcZ rfl) rfl (by show 2 * 0 + _ ≤ _; exact Nat.le_of_eq rfl) (hb hby at_130)
                obtain ⟨rfl, e40, rfl⟩ := q40
                have N40 := Fr.app N0 (Fr.nil n0)
                refine Fin.go st40 ?_
                show Fin _ p e below s _ _ _ T40 (mkF m 133 #[.val (.int p0), .val (.int o), .val (.int ((p0 &&& (2147483647 : Int32)) % (6 : Int32))), .val (.ref aGE), .val (.int (3 : Int32)), .val (.int (2 : Int32)), .val (.int (1 : Int32))] [(.int (1 : Int32))])
                refine Fin.go (fun _ k => XS.iload X40.here hx rfl (hb hby at_133) rfl k) ?_
                show Fin _ p e below s _ _ _ T40 (mkF m 135 #[.val (.int p0), .val (.int o), .val (.int ((p0 &&& (2147483647 : Int32)) % (6 : Int32))), .val (.ref aGE), .val (.int (3 : Int32)), .val (.int (2 : Int32)), .val (.int (1 : Int32))] [(.int (1 : Int32)), (.int (1 : Int32))])
                refine Fin.go (fun _ k => XS.icmpNo X40.here hx rfl (hb hby at_135) rfl (XT.ii_ne_f (by decide)) k) ?_
                show Fin _ p e below s _ _ _ T40 (mkF m 138 #[.val (.int p0), .val (.int o), .val (.int ((p0 &&& (2147483647 : Int32)) % (6 : Int32))), .val (.ref aGE), .val (.int (3 : Int32)), .val (.int (2 : Int32)), .val (.int (1 : Int32))] [])
                refine Fin.go (fun _ k => XS.iconst X40.here hx rfl (hb hby at_138) k) ?_
                show Fin _ p e below s _ _ _ T40 (mkF m 139 #[.val (.int p0), .val (.int o), .val (.int ((p0 &&& (2147483647 : Int32)) % (6 : Int32))), .val (.ref aGE), .val (.int (3 : Int32)), .val (.int (2 : Int32)), .val (.int (1 : Int32))] [(.int (1 : Int32))])
                refine Fin.go (fun _ k => XS.goto X40.here hx rfl (pc0 := 139) (pc' := 143) rfl (hb hby at_139) (by decide) (by decide) k) ?_
                show Fin _ p e below s _ _ _ T40 (mkF m 143 #[.val (.int p0), .val (.int o), .val (.int ((p0 &&& (2147483647 : Int32)) % (6 : Int32))), .val (.ref aGE), .val (.int (3 : Int32)), .val (.int (2 : Int32)), .val (.int (1 : Int32))] [(.int (1 : Int32))])
                exact Fin.leaveN X40 e40 hlk (v := some (.int (nar .boolean (1 : Int32)))) (fun h => by rw [hret] at h; cases h) (by decide) (by decide) ⟨rfl, N40⟩ (fun fs hr => retN X40 hx (t := .boolean) hret (by simp) (hb hby at_143) hr)
              · refine Fin.go (fun _ k => XS.ifYes X36.here hx rfl (pc0 := 101) (pc' := 110) rfl (hb hby at_101) rfl (XT.i0_ne_t c101) (by decide) (by decide) k) ?_
                show Fin _ p e below s _ _ _ T36 (mkF m 110 #[.val (.int p0), .val (.int o), .val (.int ((p0 &&& (2147483647 : Int32)) % (6 : Int32))), .val (.ref aGE), .val (.int (3 : Int32)), .unset, .unset] [])
                refine Fin.go (fun _ k => XS.iconst X36.here hx rfl (hb hby at_110) k) ?_
                show Fin _ p e below s _ _ _ T36 (mkF m 111 #[.val (.int p0), .val (.int o), .val (.int ((p0 &&& (2147483647 : Int32)) % (6 : Int32))), .val (.ref aGE), .val (.int (3 : Int32)), .unset, .unset] [(.int (1 : Int32))])
                refine Fin.go (fun _ k => XS.istore X36.here hx rfl (hb hby at_111) rfl (l' := #[.val (.int p0), .val (.int o), .val (.int ((p0 &&& (2147483647 : Int32)) % (6 : Int32))), .val (.ref aGE), .val (.int (3 : Int32)), .val (.int (1 : Int32)), .unset]) rfl k) ?_
                show Fin _ p e below s _ _ _ T36 (mkF m 113 #[.val (.int p0), .val (.int o), .val (.int ((p0 &&& (2147483647 : Int32)) % (6 : Int32))), .val (.ref aGE), .val (.int (3 : Int32)), .val (.int (1 : Int32)), .unset] [])
                refine Fin.go (fun _ k => XS.iload X36.here hx rfl (hb hby at_113) rfl k) ?_
                show Fin _ p e below s _ _ _ T36 (mkF m 115 #[.val (.int p0), .val (.int o), .val (.int ((p0 &&& (2147483647 : Int32)) % (6 : Int32))), .val (.ref aGE), .val (.int (3 : Int32)), .val (.int (1 : Int32)), .unset] [(.int (3 : Int32))])
                refine Fin.go (fun _ k => XS.iload X36.here hx rfl (hb hby at_115) rfl k) ?_
                show Fin _ p e below s _ _ _ T36 (mkF m 117 #[.val (.int p0), .val (.int o), .val (.int ((p0 &&& (2147483647 : Int32)) % (6 : Int32))), .val (.ref aGE), .val (.int (3 : Int32)), .val (.int (1 : Int32)), .unset] [(.int (1 : Int32)), (.int (3 : Int32))])
                refine Fin.go (fun _ k => XS.iand X36.here hx rfl (hb hby at_117) rfl k) ?_
                show Fin _ p e below s _ _ _ T36 (mkF m 118 #[.val (.int p0), .val (.int o), .val (.int ((p0 &&& (2147483647 : Int32)) % (6 : Int32))), .val (.ref aGE), .val (.int (3 : Int32)), .val (.int (1 : Int32)), .unset] [(.int ((3 : Int32) &&& (1 : Int32)))])
                refine Fin.go (fun _ k => XS.ifNo X36.here hx rfl (hb hby at_118) rfl (XT.i0_eq_f (by decide)) k) ?_
                show Fin _ p e below s _ _ _ T36 (mkF m 121 #[.val (.int p0), .val (.int o), .val (.int ((p0 &&& (2147483647 : Int32)) % (6 : Int32))), .val (.ref aGE), .val (.int (3 : Int32)), .val (.int (1 : Int32)), .unset] [])
                refine Fin.go (fun _ k => XS.iconst X36.here hx rfl (hb hby at_121) k) ?_
                show Fin _ p e below s _ _ _ T36 (mkF m 122 #[.val (.int p0), .val (.int o), .val (.int ((p0 &&& (2147483647 : Int32)) % (6 : Int32))), .val (.ref aGE), .val (.int (3 : Int32)), .val (.int (1 : Int32)), .unset] [(.int (1 : Int32))])
                refine Fin.go (fun _ k => XS.goto X36.here hx rfl (pc0 := 122) (pc' := 126) rfl (hb hby at_122) (by decide) (by decide) k) ?_
                show Fin _ p e below s _ _ _ T36 (mkF m 126 #[.val (.int p0), .val (.int o), .val (.int ((p0 &&& (2147483647 : Int32)) % (6 : Int32))), .val (.ref aGE), .val (.int (3 : Int32)), .val (.int (1 : Int32)), .unset] [(.int (1 : Int32))])
                refine Fin.go (fun _ k => XS.istore X36.here hx rfl (hb hby at_126) rfl (l' := #[.val (.int p0), .val (.int o), .val (.int ((p0 &&& (2147483647 : Int32)) % (6 : Int32))), .val (.ref aGE), .val (.int (3 : Int32)), .val (.int (1 : Int32)), .val (.int (1 : Int32))]) rfl k) ?_
                show Fin _ p e below s _ _ _ T36 (mkF m 128 #[.val (.int p0), .val (.int o), .val (.int ((p0 &&& (2147483647 : Int32)) % (6 : Int32))), .val (.ref aGE), .val (.int (3 : Int32)), .val (.int (1 : Int32)), .val (.int (1 : Int32))] [])
                refine Fin.go (fun _ k => XS.aloadN X36.here hx rfl (hb hby at_128) rfl rfl k) ?_
                show Fin _ p e below s _ _ _ T36 (mkF m 129 #[.val (.int p0), .val (.int o), .val (.int ((p0 &&& (2147483647 : Int32)) % (6 : Int32))), .val (.ref aGE), .val (.int (3 : Int32)), .val (.int (1 : Int32)), .val (.int (1 : Int32))] [(.ref aGE)])
                refine Fin.go (fun _ k => XS.iloadN X36.here hx rfl (hb hby at_129) rfl k) ?_
                show Fin _ p e below s _ _ _ T36 (mkF m 130 #[.val (.int p0), .val (.int o), .val (.int ((p0 &&& (2147483647 : Int32)) % (6 : Int32))), .val (.ref aGE), .val (.int (3 : Int32)), .val (.int (1 : Int32)), .val (.int (1 : Int32))] [(.int o), (.ref aGE)])
                have r41 := rmH5 l Z a0 hw n0 h0 O aGE o (A_aGE.ext O.2) (F_aGE.ext O.2)
                rw [sg_p c91 c101] at r41
                obtain ⟨v42, T42, L42, X42, q42, st42⟩ := callVt X36 hx hZ (y := (⟨"com/example/grantwell/grantwell/catalog/Condition$Operator", "holdsFor", "(I)Z"⟩ : MethodName)) hown (hw _ w_4) (hw _ w_5) (hw _ w_7) (hw _ w_6) (hw _ w_2) (hw _ w_8) (by decide) (W := 0) (r41) e36 (A_aGE.ext O.2) (by decide) (by decide) (by decide) (by decide) (g := (mkF m 130 #[.val (.int p0), .val (.int o), .val (.int ((p0 &&& (2147483647 : Int32)) % (6 : Int32))), .val (.ref aGE), .val (.int (3 : Int32)), .val (.int (1 : Int32)), .val (.int (1 : Int32))] [(.int o), (.ref aGE)])) rfl (by rw [hml]; rfl) (argsL := [(.int o)]) (rest := []) (lenOf pd_oIcZ rfl) rfl (by show 2 * 0 + _ ≤ _; exact Nat.le_of_eq rfl) (hb hby at_130)
                obtain ⟨rfl, e42, rfl⟩ := q42
                have N42 := Fr.app N0 (Fr.nil n0)
                refine Fin.go st42 ?_
                show Fin _ p e below s _ _ _ T42 (mkF m 133 #[.val (.int p0), .val (.int o), .val (.int ((p0 &&& (2147483647 : Int32)) % (6 : Int32))), .val (.ref aGE), .val (.int (3 : Int32)), .val (.int (1 : Int32)), .val (.int (1 : Int32))] [(.int (1 : Int32))])
                refine Fin.go (fun _ k => XS.iload X42.here hx rfl (hb hby at_133) rfl k) ?_
                show Fin _ p e below s _ _ _ T42 (mkF m 135 #[.val (.int p0), .val (.int o), .val (.int ((p0 &&& (2147483647 : Int32)) % (6 : Int32))), .val (.ref aGE), .val (.int (3 : Int32)), .val (.int (1 : Int32)), .val (.int (1 : Int32))] [(.int (1 : Int32)), (.int (1 : Int32))])
                refine Fin.go (fun _ k => XS.icmpNo X42.here hx rfl (hb hby at_135) rfl (XT.ii_ne_f (by decide)) k) ?_
                show Fin _ p e below s _ _ _ T42 (mkF m 138 #[.val (.int p0), .val (.int o), .val (.int ((p0 &&& (2147483647 : Int32)) % (6 : Int32))), .val (.ref aGE), .val (.int (3 : Int32)), .val (.int (1 : Int32)), .val (.int (1 : Int32))] [])
                refine Fin.go (fun _ k => XS.iconst X42.here hx rfl (hb hby at_138) k) ?_
                show Fin _ p e below s _ _ _ T42 (mkF m 139 #[.val (.int p0), .val (.int o), .val (.int ((p0 &&& (2147483647 : Int32)) % (6 : Int32))), .val (.ref aGE), .val (.int (3 : Int32)), .val (.int (1 : Int32)), .val (.int (1 : Int32))] [(.int (1 : Int32))])
                refine Fin.go (fun _ k => XS.goto X42.here hx rfl (pc0 := 139) (pc' := 143) rfl (hb hby at_139) (by decide) (by decide) k) ?_
                show Fin _ p e below s _ _ _ T42 (mkF m 143 #[.val (.int p0), .val (.int o), .val (.int ((p0 &&& (2147483647 : Int32)) % (6 : Int32))), .val (.ref aGE), .val (.int (3 : Int32)), .val (.int (1 : Int32)), .val (.int (1 : Int32))] [(.int (1 : Int32))])
                exact Fin.leaveN X42 e42 hlk (v := some (.int (nar .boolean (1 : Int32)))) (fun h => by rw [hret] at h; cases h) (by decide) (by decide) ⟨rfl, N42⟩ (fun fs hr => retN X42 hx (t := .boolean) hret (by simp) (hb hby at_143) hr)
set_option maxRecDepth 65536 in
set_option maxHeartbeats 40000000 in
theorem comes_1 {Post : Tables → Env → Array Value → State → Outcome → State → Prop} (hpost : ∀ tb e args s v u, (limb_1_1.after args s (.returned v) u = true ∧ limb_1_2.after args s (.returned v) u = true ∧ True) → FrameEnd s (.returned v) u (Jvm.fieldLocs frame_1_writes args s ++ Jvm.arrayLocs frame_1_arrays args s ++ Jvm.staticLocs frame_1_statics s) 0 0 → Post tb e args s (.returned v) u) :
    ArmFor flags0 classFile x code maxLocals ret World_1 tables_1 room_1 Calls_1 rest_1 Pre_1 Post := by
  intro l hfl _ _ p e ha hc hk s m args below hf hA hF happ hP
  obtain ⟨hcalls, hrest, hpre⟩ := hP
  obtain ⟨-, -, -, hnamed, -, -, -, hat⟩ := (Spec.applies_iff hf).mp happ
  obtain ⟨hg, hn⟩ := and_e (Cond.before_iff.mp (show (Jvm.Cond.and given_1 narrow_1).before args s = true from hpre))
  obtain ⟨hcnt, hg⟩ := and_e hg
  obtain ⟨u0, u1, rfl⟩ : ∃ u0 u1 : Value, args = #[u0, u1] := by
    have hs : args.size = 2 := by simpa [Cond.value, given_1] using hcnt
    obtain ⟨L⟩ := args
    match L, hs with
    | [u0, u1], _ => exact ⟨u0, u1, rfl⟩
  have hw := fun d (hd : d ∈ tables_1) => atoms_spec (ws := Jvm.Cond.code x code maxLocals ret :: tables_1) hat d (List.mem_cons_of_mem _ hd)
  have hfit : Fit s := fun {y c} hc i hi => by
    obtain ⟨ha, rfl⟩ := Array.getElem?_eq_some_iff.mp hc
    have q := List.all_eq_true.mp ((Array.all_eq_true_iff_forall_mem.mp hF) _ (Array.getElem_mem ha)) i (List.mem_range.mpr hi)
    simpa [Array.getElem?_eq_getElem hi] using q
  obtain ⟨g0, hg⟩ := and_e hg
  obtain ⟨i0, ei0⟩ := is_v g0
  obtain rfl : u0 = (.int i0) := Option.some.inj ei0
  have g1 := hg
  obtain ⟨i1, ei1⟩ := is_v g1
  obtain rfl : u1 = (.int i1) := Option.some.inj ei1
  have x_aEQ := (and_e hn).1
  obtain ⟨aEQ, ev_aEQ⟩ := exa_v x_aEQ
  have A_aEQ := Exa.start ev_aEQ x_aEQ
  have S_aEQ := Sta.start ev_aEQ (Or.inr ⟨(hw _ w_2), (hw _ w_3)⟩)
  have x_aLT := (and_e (and_e (and_e hn).2).2).1
  obtain ⟨aLT, ev_aLT⟩ := exa_v x_aLT
  have A_aLT := Exa.start ev_aLT x_aLT
  have S_aLT := Sta.start ev_aLT (Or.inr ⟨(hw _ w_2), (hw _ w_19)⟩)
  have x_aGT := (and_e (and_e (and_e (and_e (and_e hn).2).2).2).2).1
  obtain ⟨aGT, ev_aGT⟩ := exa_v x_aGT
  have A_aGT := Exa.start ev_aGT x_aGT
  have S_aGT := Sta.start ev_aGT (Or.inr ⟨(hw _ w_2), (hw _ w_21)⟩)
  have x_aNE := (and_e (and_e (and_e (and_e (and_e (and_e (and_e hn).2).2).2).2).2).2).1
  obtain ⟨aNE, ev_aNE⟩ := exa_v x_aNE
  have A_aNE := Exa.start ev_aNE x_aNE
  have S_aNE := Sta.start ev_aNE (Or.inr ⟨(hw _ w_2), (hw _ w_23)⟩)
  have x_aGE := (and_e (and_e (and_e (and_e (and_e (and_e (and_e (and_e (and_e hn).2).2).2).2).2).2).2).2).1
  obtain ⟨aGE, ev_aGE⟩ := exa_v x_aGE
  have A_aGE := Exa.start ev_aGE x_aGE
  have S_aGE := Sta.start ev_aGE (Or.inr ⟨(hw _ w_2), (hw _ w_25)⟩)
  have x_aLE := (and_e (and_e (and_e (and_e (and_e (and_e (and_e (and_e (and_e (and_e (and_e hn).2).2).2).2).2).2).2).2).2).2).1
  obtain ⟨aLE, ev_aLE⟩ := exa_v x_aLE
  have A_aLE := Exa.start ev_aLE x_aLE
  have S_aLE := Sta.start ev_aLE (Or.inr ⟨(hw _ w_2), (hw _ w_27)⟩)
  have F_aEQ_ordinal := fldOf ev_aEQ ((and_e (and_e hn).2).1)
  have F_aLT_ordinal := fldOf ev_aLT ((and_e (and_e (and_e (and_e hn).2).2).2).1)
  have F_aGT_ordinal := fldOf ev_aGT ((and_e (and_e (and_e (and_e (and_e (and_e hn).2).2).2).2).2).1)
  have F_aNE_ordinal := fldOf ev_aNE ((and_e (and_e (and_e (and_e (and_e (and_e (and_e (and_e hn).2).2).2).2).2).2).2).1)
  have F_aGE_ordinal := fldOf ev_aGE ((and_e (and_e (and_e (and_e (and_e (and_e (and_e (and_e (and_e (and_e hn).2).2).2).2).2).2).2).2).2).1)
  have F_aLE_ordinal := fldOf ev_aLE ((and_e (and_e (and_e (and_e (and_e (and_e (and_e (and_e (and_e (and_e (and_e hn).2).2).2).2).2).2).2).2).2).2).2)
  obtain ⟨n, o, h1, h2, h3, _, L, rfl, ⟨rfl, N⟩, hq⟩ := law l s _ hw s.heap.size s.heap (Old.start s) i0 i1 aEQ aNE aLT aLE aGT aGE S_aEQ A_aEQ S_aNE A_aNE S_aLT A_aLT S_aLE A_aLE S_aGT A_aGT S_aGE A_aGE F_aEQ_ordinal F_aNE_ordinal F_aLT_ordinal F_aLE_ordinal F_aGT_ordinal F_aGE_ordinal p e ha hc hk s m _ below hf ((Spec.applies_iff_loose hf).mp happ).1 ⟨rfl, State.Warmed39.refl s, rfl⟩ trivial
  refine ⟨n, _, h1, h2, h3, hpost _ _ _ _ _ _ ⟨Cond.after_iff.mpr rfl, Cond.after_iff.mpr (eq_i res_at (Term.int_eval (1)) rfl), trivial⟩ ⟨hq.1, hq.2.1, (hq.2.2.sift fun y hy => Or.inr (N y hy)).mono (by decide) (by decide)⟩⟩
theorem main_1_1 : Claimed_1_1 := comes_1 fun _ _ _ _ _ _ h hF => ⟨h.1, hF⟩
theorem main_1_2 : Claimed_1_2 := comes_1 fun _ _ _ _ _ _ h hF => ⟨h.2.1, hF⟩
end Jvm.Pilot.@@N@@
namespace Jvm.Pilot.@@N@@
open Jvm Jvm.ClassFile Sem Op Lib Jvm.Free Jvm.Stand Jvm.Pilot.@@N@@.Jvm.D
/-! MADE BY PROGRAM (witnessworld.py) out of the Statement's table words and the real class files: 12 classes; the members and pool entries that the words name. The judged class is class 1, her method 1. -/
namespace start1
open Jvm.ClassFile
def u (s : String) : CpInfo := .utf8 (stringToUtf16 s)
/-- a pool by its gaps: so many unusable entries, then the entry; so many at the end -/
def gap : Nat → List CpInfo → List CpInfo
  | 0, r => r
  | n + 1, r => .unusable :: gap n r
def poolList (es : List (Nat × CpInfo)) (last : Nat) : List CpInfo := es.foldr (fun e r => gap e.1 (e.2 :: r)) (gap last [])
def pool (es : List (Nat × CpInfo)) (last : Nat) : Array CpInfo := ⟨poolList es last⟩
def fileOf (pool : Array CpInfo) (this : Nat) (attrs : Array Attribute := #[]) (ms : Array MethodInfo := #[]) (fl : Nat := 33) (sup : Nat := 0) (ifs : Array Nat := #[]) (fds : Array FieldInfo := #[]) : ClassFile where
  minorVersion := 0
  majorVersion := 65
  constantPool := pool
  accessFlags := fl
  thisClass := this
  superClass := sup
  interfaces := ifs
  fields := fds
  methods := ms
  attributes := attrs
def plain (name : String) (sup : Option ClassId) : Class where
  name := name
  kind := .ordinary
  loader := none
  accessFlags := 33
  super := sup
  interfaces := #[]
  cf := none
  fields := #[]
  methods := #[]
  instanceTypes := #[]
  staticTypes := #[]
  resolved := #[]
  callSites := []
  init := .initialized
  statics := none
  mirror := none

def pool0 : Array CpInfo := pool [(5, u "<init>"), (0, u "()V"), (1, .class_ 10), (1, u "java/lang/Object")] 113

def k0m0 : Method := { name := "<init>", desc := "()V", sig := { parameters := [], returnType := none }, accessFlags := 1, code := none }
/-- java/lang/Object -/
def k0 : Class := { plain "java/lang/Object" none with
  accessFlags := 33
  interfaces := #[]
  cf := some (fileOf pool0 8 #[] #[{ accessFlags := 1, nameIndex := 5, descriptorIndex := 6, attributes := #[] }] 33 0 #[] #[])
  fields := #[]
  methods := #[k0m0]
  instanceTypes := #[]
  staticTypes := #[]
  resolved := Array.replicate 124 none
  statics := none }

def pool1 : Array CpInfo := pool [(2, .class_ 4), (1, u "java/lang/Object"), (0, u "<init>"), (0, u "()V"), (0, .integer 2147483647), (0, .fieldref 9 10), (0, .class_ 11), (0, .nameAndType 12 13), (0, u "com/example/grantwell/grantwell/catalog/Condition$Operator"), (0, u "EQUAL"), (0, u "Lcom/example/grantwell/grantwell/catalog/Condition$Operator;"), (0, .fieldref 9 15), (0, .nameAndType 16 13), (0, u "NOT_EQUAL"), (0, .fieldref 9 18), (0, .nameAndType 19 13), (0, u "LESS"), (0, .fieldref 9 21), (0, .nameAndType 22 13), (0, u "LESS_OR_EQUAL"), (0, .fieldref 9 24), (0, .nameAndType 25 13), (0, u "GREATER"), (0, .fieldref 9 27), (0, .nameAndType 28 13), (0, u "GREATER_OR_EQUAL"), (0, .methodref 9 30), (0, .nameAndType 31 32), (0, u "holdsFor"), (0, u "(I)Z"), (0, .class_ 34), (0, u "com/example/grantwell/grantwell/catalog/OperatorHoldsForPinLaw"), (2, u "law"), (0, u "(II)Z")] 7

def k1m0 : Method := { name := "<init>", desc := "()V", sig := { parameters := [], returnType := none }, accessFlags := 1, code := none }
def k1c1 : Code := { maxStack := 2, maxLocals := 7, code := code, exceptionTable := #[], attributes := #[] }
def k1m1 : Method := { name := "law", desc := "(II)Z", sig := { parameters := [.int, .int], returnType := some .boolean }, accessFlags := 9, code := some k1c1 }
/-- com/example/grantwell/grantwell/catalog/OperatorHoldsForPinLaw -/
def k1 : Class := { plain "com/example/grantwell/grantwell/catalog/OperatorHoldsForPinLaw" (some 0) with
  accessFlags := 49
  interfaces := #[]
  cf := some (fileOf pool1 33 #[] #[{ accessFlags := 1, nameIndex := 5, descriptorIndex := 6, attributes := #[] }, { accessFlags := 9, nameIndex := 37, descriptorIndex := 38, attributes := #[] }] 49 2 #[] #[])
  fields := #[]
  methods := #[k1m0, k1m1]
  instanceTypes := #[]
  staticTypes := #[]
  resolved := Array.replicate 46 none
  statics := none }

def pool2 : Array CpInfo := pool [(1, .class_ 2), (0, u "java/lang/constant/Constable"), (0, .class_ 4), (0, u "java/lang/Object")] 6

/-- java/lang/constant/Constable -/
def k2 : Class := { plain "java/lang/constant/Constable" (some 0) with
  accessFlags := 1537
  interfaces := #[]
  cf := some (fileOf pool2 1 #[] #[] 1537 3 #[] #[])
  fields := #[]
  methods := #[]
  instanceTypes := #[]
  staticTypes := #[]
  resolved := Array.replicate 11 none
  statics := none }

def pool3 : Array CpInfo := pool [(1, .class_ 2), (0, u "java/lang/Comparable"), (0, .class_ 4), (0, u "java/lang/Object")] 7

/-- java/lang/Comparable -/
def k3 : Class := { plain "java/lang/Comparable" (some 0) with
  accessFlags := 1537
  interfaces := #[]
  cf := some (fileOf pool3 1 #[] #[] 1537 3 #[] #[])
  fields := #[]
  methods := #[]
  instanceTypes := #[]
  staticTypes := #[]
  resolved := Array.replicate 12 none
  statics := none }

def pool4 : Array CpInfo := pool [(1, .class_ 2), (0, u "java/io/Serializable"), (0, .class_ 4), (0, u "java/lang/Object")] 2

/-- java/io/Serializable -/
def k4 : Class := { plain "java/io/Serializable" (some 0) with
  accessFlags := 1537
  interfaces := #[]
  cf := some (fileOf pool4 1 #[] #[] 1537 3 #[] #[])
  fields := #[]
  methods := #[]
  instanceTypes := #[]
  staticTypes := #[]
  resolved := Array.replicate 7 none
  statics := none }

def pool5 : Array CpInfo := pool [(2, .class_ 4), (1, u "java/lang/Enum"), (0, u "name"), (0, u "Ljava/lang/String;"), (0, .fieldref 2 8), (0, .nameAndType 9 10), (0, u "ordinal"), (0, u "I"), (1, .class_ 14), (1, u "java/lang/Object"), (4, u "hash"), (86, .class_ 108), (1, u "java/lang/Enum$EnumDesc"), (2, .class_ 112), (0, u "java/lang/constant/Constable"), (0, .class_ 114), (0, u "java/lang/Comparable"), (0, .class_ 116), (0, u "java/io/Serializable"), (9, u "()I")] 77

def k5c0 : Code := { maxStack := 1, maxLocals := 1, code := jdk_37_method_2_code, exceptionTable := #[], attributes := #[] }
def k5m0 : Method := { name := "ordinal", desc := "()I", sig := { parameters := [], returnType := some .int }, accessFlags := 17, code := some k5c0 }
/-- java/lang/Enum -/
def k5 : Class := { plain "java/lang/Enum" (some 0) with
  accessFlags := 1057
  interfaces := #[2, 3, 4]
  cf := some (fileOf pool5 2 #[.nestMembers #[106]] #[{ accessFlags := 17, nameIndex := 9, descriptorIndex := 126, attributes := #[] }] 1057 12 #[111, 113, 115] #[{ accessFlags := 18, nameIndex := 5, descriptorIndex := 6, attributes := #[] }, { accessFlags := 18, nameIndex := 9, descriptorIndex := 10, attributes := #[] }, { accessFlags := 2, nameIndex := 19, descriptorIndex := 10, attributes := #[] }])
  fields := #[{ name := "name", type := (.object "java/lang/String"), accessFlags := 18, slot := 0, constantValue := 0 }, { name := "ordinal", type := .int, accessFlags := 18, slot := 1, constantValue := 0 }, { name := "hash", type := .int, accessFlags := 2, slot := 2, constantValue := 0 }]
  methods := #[k5m0]
  instanceTypes := #[(.object "java/lang/String"), .int, .int]
  staticTypes := #[]
  resolved := Array.replicate 204 none
  statics := none }

def pool6 : Array CpInfo := pool [(1, .class_ 2), (0, u "com/example/grantwell/grantwell/catalog/Condition$Operator"), (2, u "EQUAL"), (0, u "Lcom/example/grantwell/grantwell/catalog/Condition$Operator;"), (2, u "NOT_EQUAL"), (2, u "LESS"), (2, u "LESS_OR_EQUAL"), (2, u "GREATER"), (2, u "GREATER_OR_EQUAL"), (2, u "$VALUES"), (0, u "[Lcom/example/grantwell/grantwell/catalog/Condition$Operator;"), (6, .class_ 34), (1, u "java/lang/Enum"), (8, u "symbol"), (0, u "Ljava/lang/String;"), (0, .methodref 1 46), (0, .nameAndType 47 48), (0, u "ordinal"), (0, u "()I"), (38, u "holdsFor"), (0, u "(I)Z"), (7, .class_ 97), (0, u "com/example/grantwell/grantwell/catalog/Condition")] 2

def k6c0 : Code := { maxStack := 4, maxLocals := 2, code := prog_36_method_5_code, exceptionTable := #[], attributes := #[] }
def k6m0 : Method := { name := "holdsFor", desc := "(I)Z", sig := { parameters := [.int], returnType := some .boolean }, accessFlags := 1, code := some k6c0 }
/-- com/example/grantwell/grantwell/catalog/Condition$Operator -/
def k6 : Class := { plain "com/example/grantwell/grantwell/catalog/Condition$Operator" (some 5) with
  accessFlags := 16433
  interfaces := #[]
  cf := some (fileOf pool6 1 #[.nestHost 96] #[{ accessFlags := 1, nameIndex := 87, descriptorIndex := 88, attributes := #[] }] 16433 32 #[] #[{ accessFlags := 16409, nameIndex := 5, descriptorIndex := 6, attributes := #[] }, { accessFlags := 16409, nameIndex := 9, descriptorIndex := 6, attributes := #[] }, { accessFlags := 16409, nameIndex := 12, descriptorIndex := 6, attributes := #[] }, { accessFlags := 16409, nameIndex := 15, descriptorIndex := 6, attributes := #[] }, { accessFlags := 16409, nameIndex := 18, descriptorIndex := 6, attributes := #[] }, { accessFlags := 16409, nameIndex := 21, descriptorIndex := 6, attributes := #[] }, { accessFlags := 18, nameIndex := 43, descriptorIndex := 44, attributes := #[] }, { accessFlags := 4122, nameIndex := 24, descriptorIndex := 25, attributes := #[] }])
  fields := #[{ name := "EQUAL", type := (.object "com/example/grantwell/grantwell/catalog/Condition$Operator"), accessFlags := 16409, slot := 0, constantValue := 0 }, { name := "NOT_EQUAL", type := (.object "com/example/grantwell/grantwell/catalog/Condition$Operator"), accessFlags := 16409, slot := 1, constantValue := 0 }, { name := "LESS", type := (.object "com/example/grantwell/grantwell/catalog/Condition$Operator"), accessFlags := 16409, slot := 2, constantValue := 0 }, { name := "LESS_OR_EQUAL", type := (.object "com/example/grantwell/grantwell/catalog/Condition$Operator"), accessFlags := 16409, slot := 3, constantValue := 0 }, { name := "GREATER", type := (.object "com/example/grantwell/grantwell/catalog/Condition$Operator"), accessFlags := 16409, slot := 4, constantValue := 0 }, { name := "GREATER_OR_EQUAL", type := (.object "com/example/grantwell/grantwell/catalog/Condition$Operator"), accessFlags := 16409, slot := 5, constantValue := 0 }, { name := "symbol", type := (.object "java/lang/String"), accessFlags := 18, slot := 3, constantValue := 0 }, { name := "$VALUES", type := (.array (.object "com/example/grantwell/grantwell/catalog/Condition$Operator")), accessFlags := 4122, slot := 6, constantValue := 0 }]
  methods := #[k6m0]
  instanceTypes := #[(.object "java/lang/String"), .int, .int, (.object "java/lang/String")]
  staticTypes := #[(.object "com/example/grantwell/grantwell/catalog/Condition$Operator"), (.object "com/example/grantwell/grantwell/catalog/Condition$Operator"), (.object "com/example/grantwell/grantwell/catalog/Condition$Operator"), (.object "com/example/grantwell/grantwell/catalog/Condition$Operator"), (.object "com/example/grantwell/grantwell/catalog/Condition$Operator"), (.object "com/example/grantwell/grantwell/catalog/Condition$Operator"), (.array (.object "com/example/grantwell/grantwell/catalog/Condition$Operator"))]
  resolved := Array.replicate 100 none
  statics := some 0 }

def pool7 : Array CpInfo := pool [(1, u "java/lang/Cloneable"), (0, .class_ 1), (0, u "java/lang/Object"), (0, .class_ 3)] 3

/-- java/lang/Cloneable -/
def k7 : Class := { plain "java/lang/Cloneable" (some 0) with
  accessFlags := 1537
  interfaces := #[]
  cf := some (fileOf pool7 2 #[] #[] 1537 4 #[] #[])
  fields := #[]
  methods := #[]
  instanceTypes := #[]
  staticTypes := #[]
  resolved := Array.replicate 8 none
  statics := none }

/-- the primitive byte -/
def k8 : Class := { plain "byte" none with kind := .primitive 'B', accessFlags := 0x411 }
/-- [B -/
def k9 : Class := { plain "[B" (some 0) with kind := .array 8 .byte, interfaces := #[7, 4], accessFlags := 1041 }

/-- the primitive int -/
def k10 : Class := { plain "int" none with kind := .primitive 'I', accessFlags := 0x411 }
/-- [I -/
def k11 : Class := { plain "[I" (some 0) with kind := .array 10 .int, interfaces := #[7, 4], accessFlags := 1041 }

def heap : Heap := #[{ cls := 6, slots := #[.ref 1, .ref 2, .ref 3, .ref 4, .ref 5, .ref 6, .null], vm := .statics 6 },
  { cls := 6, slots := #[.null, .int 0, .int 0, .null], vm := .none },
  { cls := 6, slots := #[.null, .int 1, .int 0, .null], vm := .none },
  { cls := 6, slots := #[.null, .int 2, .int 0, .null], vm := .none },
  { cls := 6, slots := #[.null, .int 3, .int 0, .null], vm := .none },
  { cls := 6, slots := #[.null, .int 4, .int 0, .null], vm := .none },
  { cls := 6, slots := #[.null, .int 5, .int 0, .null], vm := .none }]
def classes : Array Class := #[k0, k1, k2, k3, k4, k5, k6, k7, k8, k9, k10, k11]
def interned : List (Array UInt16 × Addr) := []
def slotsUsed : Nat := 31
def theMethod : MethodId := ⟨1, 1⟩
def args0 : Array Value := #[.int 5, .int 7]
def aboutOver (below : List Frame) : State where
  vm := { classes := classes, interned := interned.toArray }
  heap := heap
  slotsUsed := slotsUsed
  threads := #[{ frames := .invoking theMethod args0 :: below }]
def below0 : List Frame := [.native { method := ⟨0, 0⟩, args := #[] }]
def about1 : State := aboutOver below0
def p0 : Program := .bare "" "" ""
def e0 : Env := launch0.env 0 0 0
theorem w_frames : about1.frames = Frame.invoking theMethod args0 :: below0 := rfl
set_option maxRecDepth 65536 in
theorem w_args : argsFit about1.vm theMethod args0 = true := by decide +kernel
set_option maxRecDepth 65536 in
theorem w_heap : heapFits about1 = true := by decide +kernel
set_option maxRecDepth 65536 in
theorem w_runnable : about1.curStatus? = some .runnable := by decide +kernel
set_option maxRecDepth 65536 in
theorem w_alone : about1.alone = true := by decide +kernel
set_option maxRecDepth 65536 in
theorem w_named : about1.methodNamed? x = some theMethod := by decide +kernel
set_option maxRecDepth 65536 in
theorem w_hears : about1.hears theMethod below0 = true := by decide +kernel
set_option maxRecDepth 65536 in
theorem w_ripe : about1.ripe theMethod args0 below0 = true := by decide +kernel
theorem w_running : about1.status = .running := rfl
set_option maxRecDepth 65536 in
theorem w_room : about1.hasRoom e0.platform room_1 = true :=
  launch0.hasRoom_least _ room_1 (by decide +kernel) (by decide +kernel) (by decide +kernel) (by decide +kernel) (by decide +kernel) (by decide +kernel)
theorem allAtoms_all (ts : List Jvm.Cond) (a : Array Jvm.Value) (st : Jvm.State) : (allAtoms ts).before a st = ts.all (fun c => c.before a st) := by
  induction ts with
  | nil => rfl
  | cons c t ih =>
    show (Jvm.Cond.and c (allAtoms t)).before a st = _
    rw [Jvm.Cond.before_and, ih, List.all_cons]
def words1 : List Jvm.Cond := Jvm.Cond.code x code maxLocals ret :: tables_1
/-- a 'code' word, met by the world's own term for the bytes: nothing is compared byte by byte -/
theorem code_word {y : MethodName} {bytes : ByteArray} {mx : Nat} {rt : Option FieldType} {a : Array Value} {s : State} {m : MethodId} {meth : Method} {c : Code} (h1 : s.methodNamed? y = some m) (h2 : s.vm.method? m = some meth) (h3 : meth.code = some c) (h4 : c.code = bytes)
    (h5 : (c.maxLocals == mx && c.exceptionTable.isEmpty && decide (c.maxStack ≤ mostOperands) && decide (meth.sig.returnType = rt) && !meth.locks && decide (parseMethodDescriptor y.desc = some meth.sig)) = true) : (Jvm.Cond.code y bytes mx rt).before a s = true := by
  simp only [Bool.and_eq_true, beq_iff_eq, Bool.not_eq_true', decide_eq_true_eq] at h5
  obtain ⟨⟨⟨⟨⟨g1, g2⟩, g3⟩, g4⟩, g5⟩, g6⟩ := h5
  simp [Cond.before, Cond.holds, Cond.value, h1, h2, h3, h4, g1, g2, g3, g4, g5, g6]
def isCode : Jvm.Cond → Bool
  | .code _ _ _ _ => true
  | _ => false
theorem all_split {L : List Jvm.Cond} {P : Jvm.Cond → Bool} (h1 : L.all (fun c => isCode c || P c) = true) (h2 : ∀ c ∈ L.filter isCode, P c = true) : L.all P = true := by
  refine List.all_eq_true.mpr fun c hc => ?_
  have h := List.all_eq_true.mp h1 c hc
  rcases Bool.eq_false_or_eq_true (isCode c) with hi | hi
  · exact h2 c (List.mem_filter.mpr ⟨hc, hi⟩)
  · simpa [hi] using h
set_option maxRecDepth 65536 in
theorem w_c0 : (Jvm.Cond.code x code maxLocals ret).before args0 about1 = true := code_word (m := ⟨1, 1⟩) (meth := k1m1) (c := k1c1) (by decide +kernel) rfl rfl rfl (by decide +kernel)
set_option maxRecDepth 65536 in
theorem w_c1 : (Jvm.Cond.code ({ cls := "com/example/grantwell/grantwell/catalog/Condition$Operator", name := "holdsFor", desc := "(I)Z" } : Jvm.MethodName) prog_36_method_5_code (2 : Nat) (Option.some Jvm.ClassFile.FieldType.boolean)).before args0 about1 = true := code_word (m := ⟨6, 0⟩) (meth := k6m0) (c := k6c0) (by decide +kernel) rfl rfl rfl (by decide +kernel)
set_option maxRecDepth 65536 in
theorem w_c2 : (Jvm.Cond.code ({ cls := "java/lang/Enum", name := "ordinal", desc := "()I" } : Jvm.MethodName) jdk_37_method_2_code (1 : Nat) (Option.some Jvm.ClassFile.FieldType.int)).before args0 about1 = true := code_word (m := ⟨5, 0⟩) (meth := k5m0) (c := k5c0) (by decide +kernel) rfl rfl rfl (by decide +kernel)
def codes1 : List Jvm.Cond := [Jvm.Cond.code x code maxLocals ret, Jvm.Cond.code ({ cls := "com/example/grantwell/grantwell/catalog/Condition$Operator", name := "holdsFor", desc := "(I)Z" } : Jvm.MethodName) prog_36_method_5_code (2 : Nat) (Option.some Jvm.ClassFile.FieldType.boolean), Jvm.Cond.code ({ cls := "java/lang/Enum", name := "ordinal", desc := "()I" } : Jvm.MethodName) jdk_37_method_2_code (1 : Nat) (Option.some Jvm.ClassFile.FieldType.int)]
set_option maxRecDepth 65536 in
theorem codes_eq : words1.filter isCode = codes1 := rfl
theorem w_codes : ∀ c ∈ words1.filter isCode, c.before args0 about1 = true := by
  rw [codes_eq]
  intro c hc
  simp only [codes1, List.mem_cons, List.not_mem_nil, or_false] at hc
  rcases hc with rfl | rfl | rfl
  · exact w_c0
  · exact w_c1
  · exact w_c2
set_option maxRecDepth 65536 in
theorem w_t1 : (words1.take 24).all (fun c => isCode c || c.before args0 about1) = true := by decide +kernel
set_option maxRecDepth 65536 in
theorem w_t2 : (words1.drop 24).all (fun c => isCode c || c.before args0 about1) = true := by decide +kernel
theorem w_tables : (allAtoms (Jvm.Cond.code x code maxLocals ret :: tables_1)).before args0 about1 = true := by
  rw [allAtoms_all]
  show words1.all (fun c => c.before args0 about1) = true
  refine all_split ?_ w_codes
  rw [← List.take_append_drop 24 words1, List.all_append, w_t1, w_t2]
  rfl
set_option maxRecDepth 65536 in
theorem w_case : (Jvm.Cond.and given_1 narrow_1).before args0 about1 = true := by decide +kernel
theorem w_applies : (headSpec (Jvm.Cond.code x code maxLocals ret :: tables_1) room_1).applies x e0.platform about1 = true :=
  (Spec.applies_iff w_frames).mpr ⟨w_running, w_runnable, w_alone, w_named, w_hears, w_ripe, w_room, w_tables⟩
theorem atStart : AtStart classFile x code maxLocals ret World_1 tables_1 room_1 Calls_1 rest_1 Pre_1 launch0 p0 e0 about1 theMethod args0 below0 :=
  ⟨lists_1, trivial, launch0.admits_env _ _ _, launch0.least_env, fairChoices_fair.cas, fairChoices_fair.clock, w_frames, w_args, w_heap, w_applies, trivial, trivial, w_case⟩
end start1
theorem witness_1 : WitnessClaimed_1 := ⟨start1.p0, start1.e0, start1.about1, start1.theMethod, start1.args0, start1.below0, start1.atStart⟩
end Jvm.Pilot.@@N@@
