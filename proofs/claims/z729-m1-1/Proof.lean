import JvmDerived
import JvmDerived.Pilot.@@N@@Statement
import JvmDerived.Pilot.@@N@@Code
set_option linter.unusedVariables false
set_option linter.unusedSimpArgs false
namespace Jvm.RoadKit
open Sem ClassFile Op Lib Jvm.Stand Jvm.Free Jvm.LawKit
section New
variable {p : Program} {l : Launch} {e : Env} {R : Room} {s : State} {m : MethodId} {args : Array Value} {below : List Frame} {meth : Method} {c : Code} {T : State} {locs : List Loc} {cells slots : Nat}
theorem retI (X : Stand p l e R s m args below meth c T locs cells slots) (hx : p.tables.exec = Jvm.exec) {pc : Nat} {Ls : Array Slot} {z : Int32} {rest : List Value} (hret : meth.sig.returnType = some .int) (hd : decode c.code pc = .ok (.ireturn, 1)) {fs : List Frame}
    (hl : ∀ (f : JFrame) (acts : List Action), f.method = m → f.locked = none → f.entered = [] → (doReturn e (T.setTop f) acts (some (.int z))).1 = T.setFrames fs) : Steps p.tables e below (T.setTop (mkF m pc Ls (.int z :: rest))) (T.setFrames fs) :=
  retOut X hx hret rfl (Or.inl ⟨rfl, Or.inl rfl, z, rfl⟩) hd hl
end New
end Jvm.RoadKit
namespace Jvm.Pilot.@@N@@
open Jvm Jvm.ClassFile Sem Op Lib Jvm.Free Jvm.Stand Jvm.LawKit Jvm.RoadKit Bundle Jvm.Pilot.@@N@@.Jvm.D
section OwnKit
variable {p : Program} {l : Launch} {e : Env} {R : Room} {s s' : State} {m : MethodId} {args : Array Value} {below : List Frame} {meth : Method} {c : Code} {T T' : State} {locs : List Loc} {cells slots : Nat} {g g' : JFrame} {Z : State} {a0 : Array Value} {h : Heap} {Q : Option Value → Heap → List Loc → Prop} {k n : Nat} {E : State → Outcome → State → List Loc → Nat → Nat → Prop}
/-- the run goes on from here to its end, and the end is as Q and the frame E say -/
def Fin (E : State → Outcome → State → List Loc → Nat → Nat → Prop) (p : Program) (e : Env) (below : List Frame) (s : State) (Q : Option Value → Heap → List Loc → Prop) (k n : Nat) (T : State) (g : JFrame) : Prop :=
  ∃ (s₂ : State) (o : Outcome), Steps p.tables e below (T.setTop g) s₂ ∧ s₂.status = .running ∧ Ended s₂ below o ∧ ∃ v L, o = .returned v ∧ Q v s₂.heap L ∧ E s o s₂ L k n
theorem Fin.go (st : ∀ t, Steps p.tables e below (T'.setTop g') t → Steps p.tables e below (T.setTop g) t) (w : Fin E p e below s Q k n T' g') : Fin E p e below s Q k n T g := by
  obtain ⟨s₂, o, h1, r⟩ := w
  exact ⟨s₂, o, st _ h1, r⟩
theorem Fin.came (st : Steps p.tables e below (T.setTop g) (T'.setTop g')) (w : Fin E p e below s Q k n T' g') : Fin E p e below s Q k n T g := by
  obtain ⟨s₂, o, h1, r⟩ := w
  exact ⟨s₂, o, st.trans h1, r⟩
theorem Fin.leaveN (X : Stand p l e R s m args below meth c T locs cells slots) (eT : T.heap = h) (hlk : meth.locks = false) {v : Option Value} (hv : meth.sig.returnType = none → v = none) (hk : cells ≤ k) (hn : slots ≤ n) (hq : Q v h locs)
    (st : ∀ fs, (∀ (f : JFrame) (acts : List Action), f.method = m → f.locked = none → f.entered = [] → (doReturn e (T.setTop f) acts v).1 = T.setFrames fs) → Steps p.tables e below (T.setTop g) (T.setFrames fs)) : Fin FrameEnd p e below s Q k n T g := by
  subst eT
  obtain ⟨fs, hr, hrun, hended, hW, hsame⟩ := X.leave hv hlk
  exact ⟨_, _, st fs hr, hrun, hended, v, locs, rfl, hq, ⟨v, rfl⟩, hW, hsame.mono hk hn⟩
/-- a body's contract: called with these arguments at this heap, it comes back as Q says -/
abbrev ConW (E : State → Outcome → State → List Loc → Nat → Nat → Prop) (l : Launch) (Z : State) (ws : List Jvm.Cond) (y : MethodName) (bytes : ByteArray) (maxL : Nat) (ret : Option FieldType) (rm : Room) (as' : Array Value) (h : Heap) (Q : Option Value → Heap → List Loc → Prop) : Prop :=
  MetFree l y (head1 (Jvm.Cond.code y bytes maxL ret :: ws) rm) (fun a U => a = as' ∧ Z.Warmed39 U.vm ∧ U.heap = h) (fun _ _ _ _ _ => True) (fun _ U o U' => ∃ v L, o = .returned v ∧ Q v U'.heap L ∧ E U o U' L rm.cells rm.slots)
abbrev Con (E : State → Outcome → State → List Loc → Nat → Nat → Prop) (l : Launch) (Z : State) (y : MethodName) (bytes : ByteArray) (maxL : Nat) (ret : Option FieldType) (rm : Room) (as' : Array Value) (h : Heap) (Q : Option Value → Heap → List Loc → Prop) : Prop := ConW E l Z [] y bytes maxL ret rm as' h Q
theorem conOf {ws : List Jvm.Cond} {y : MethodName} {bytes : ByteArray} {maxL : Nat} {ret : Option FieldType} {rm : Room} {as' : Array Value} (hpn : plainFor y = true)
    (body : ∀ (p : Program) (e : Env) (s : State) (m : MethodId) (below : List Frame) (meth : Method) (c : Code) (s₁ : State), Stand p l e rm s m as' below meth c s₁ [] 0 0 → p.tables.exec = Jvm.exec → c.code = bytes → c.maxLocals = maxL → s.vm.findClass y.cls = some m.cls → meth.name = y.name →
      meth.sig.returnType = ret → meth.locks = false → Z.Warmed39 s.vm → s₁.heap = h → Fin E p e below s Q rm.cells rm.slots s₁ (entryFrame m as' maxL)) : ConW E l Z ws y bytes maxL ret rm as' h Q := by
  refine MetFree.of_bodySF hpn hisR ?_
  intro p e s m args below meth c s₁ Bd hml hP hK
  obtain ⟨rfl, hZ, hh⟩ := hP
  exact body p e s m below meth c s₁ (Stand.of_body Bd) Bd.exec Bd.bytes hml (findClass_of_methodNamed Bd.named) (name_of_methodNamed Bd.named Bd.method).1 Bd.returns (BodyLoose.notSynchronized Bd) hZ (by rw [← hh, Bd.state]; rfl)
/-- nothing moved; r is returned -/
abbrev Pure (h0 : Heap) (r : Option Value) : Option Value → Heap → List Loc → Prop := fun v h L => v = r ∧ h = h0 ∧ L = []
theorem nar_refv {v : Value} {t : FieldType} (h : v.isRef = true) (ht : t.isReference = true) : narrow t v = v := by
  rcases ref_cases h with rfl | ⟨a, rfl⟩ <;> cases t <;> first | rfl | (simp [FieldType.isReference] at ht)
theorem fits_refv {v : Value} {t : FieldType} (h : v.isRef = true) (ht : t.isReference = true) : fits t v = true := by
  rcases ref_cases h with rfl | ⟨a, rfl⟩ <;> cases t <;> first | rfl | (simp [FieldType.isReference] at ht)
theorem nar_b8 (x : Int32) : nar .byte ((Int32.toInt8 x).toInt32) = (Int32.toInt8 x).toInt32 := by simp [nar]
theorem nar_c16 (x : Int32) : nar .char ((Int32.toUInt32 x).toUInt16.toUInt32.toInt32) = (Int32.toUInt32 x).toUInt16.toUInt32.toInt32 := by simp only [nar, UInt32.toUInt32_toInt32, UInt16.toUInt16_toUInt32]
section Calls
variable {own : String} {index : Nat} {y z : MethodName} {bytes : ByteArray} {maxL : Nat} {ret : Option FieldType} {rm : Room} {W : Nat} {Qc : Option Value → Heap → List Loc → Prop} {argsL rest : List Value}
theorem callSt (X : Stand p l e R s m args below meth c T locs cells slots) (hx : p.tables.exec = Jvm.exec) (hZ : Z.Warmed39 s.vm) (hown : s.vm.findClass own = some m.cls)
    (w1 : (Jvm.Cond.methodLink own index y).before a0 Z = true) (w2 : (Jvm.Cond.static y).before a0 Z = true) (w3 : (Jvm.Cond.initialized y.cls).before a0 Z = true) (w4 : (Jvm.Cond.code y bytes maxL ret).before a0 Z = true) (hy : y.cls ≠ "java/lang/invoke/MethodHandle" ∧ y.cls ≠ "java/lang/invoke/VarHandle")
    (hC : Con FrameEnd l Z y bytes maxL ret rm argsL.toArray h Qc) (eT : T.heap = h) (hf : rm.frames + 1 ≤ R.frames) (hl : W + (maxL + 11) + rm.locals ≤ R.locals) (hc : cells + rm.cells ≤ R.cells) (hs : slots + rm.slots ≤ R.slots)
    (hg : g.method = m) (hsize : g.locals.size = c.maxLocals) (hlen : ∀ sig, parseMethodDescriptor y.desc = some sig → argsL.length = sig.parameters.length) (hstack : g.stack = argsL.reverse ++ rest) (hW : 2 * g.monitorRoom + (rest.map fun v => v.category).sum ≤ W) (hdg : decode c.code g.pc = .ok (.invokestatic index, 3)) :
    ∃ (v : Option Value) (T' : State) (L : List Loc), Stand p l e R s m args below meth c T' (locs ++ L) (cells + rm.cells) (slots + rm.slots) ∧ Qc v T'.heap L ∧ ∀ target, Steps p.tables e below (T'.setTop { g with pc := g.pc + 3, stack := v.toList ++ rest }) target → Steps p.tables e below (T.setTop g) target := by
  obtain ⟨v, _, ⟨T2, L2, k2, n2⟩, -, X2, ⟨Lc2, hQ2, l2, y2, z2⟩, st2⟩ := Jvm.LawKit.callS X hx hown (mvT hZ w1) (mvT hZ w2) (mvT hZ w3) (mvT hZ w4) hy (backOf (W := W) hC hZ w4 w3 hf hl) hg hsize hlen hstack hW hdg (fun _ _ => ⟨rfl, eT, hc, hs⟩)
  dsimp only [Pt.U, Pt.locs, Pt.cells, Pt.slots] at X2 l2 y2 z2 st2 hQ2
  subst l2 y2 z2
  exact ⟨v, T2, Lc2, X2, hQ2, st2⟩
theorem callCt (X : Stand p l e R s m args below meth c T locs cells slots) (hx : p.tables.exec = Jvm.exec) (hZ : Z.Warmed39 s.vm) (hy1 : y.name = "<init>") (hown : s.vm.findClass own = some m.cls)
    (w1 : (Jvm.Cond.methodLink own index y).before a0 Z = true) (w2 : (Jvm.Cond.instanceMethod y).before a0 Z = true) (w3 : (Jvm.Cond.initialized y.cls).before a0 Z = true) (w4 : (Jvm.Cond.code y bytes maxL none).before a0 Z = true) (hy : y.cls ≠ "java/lang/invoke/MethodHandle" ∧ y.cls ≠ "java/lang/invoke/VarHandle")
    {a : Addr} (hC : Con FrameEnd l Z y bytes maxL none rm (.ref a :: argsL).toArray h Qc) (eT : T.heap = h) (hf : rm.frames + 1 ≤ R.frames) (hl : W + (maxL + 11) + rm.locals ≤ R.locals) (hc : cells + rm.cells ≤ R.cells) (hs : slots + rm.slots ≤ R.slots)
    (hg : g.method = m) (hsize : g.locals.size = c.maxLocals) (hlen : ∀ sig, parseMethodDescriptor y.desc = some sig → argsL.length = sig.parameters.length) (hstack : g.stack = argsL.reverse ++ .ref a :: rest) (hW : 2 * g.monitorRoom + (rest.map fun v => v.category).sum ≤ W) (hdg : decode c.code g.pc = .ok (.invokespecial index, 3)) :
    ∃ (v : Option Value) (T' : State) (L : List Loc), Stand p l e R s m args below meth c T' (locs ++ L) (cells + rm.cells) (slots + rm.slots) ∧ Qc v T'.heap L ∧ ∀ target, Steps p.tables e below (T'.setTop { g with pc := g.pc + 3, stack := v.toList ++ rest }) target → Steps p.tables e below (T.setTop g) target := by
  obtain ⟨v, _, ⟨T2, L2, k2, n2⟩, -, X2, ⟨Lc2, hQ2, l2, y2, z2⟩, st2⟩ := X.specialBack hx hy1 hown (mvT hZ w1) (mvT hZ w2) (mvT hZ w4) hy (backOf (W := W) hC hZ w4 w3 hf hl) hg hsize (Steps.refl _) hlen hstack hW hdg (fun _ _ => ⟨rfl, eT, hc, hs⟩)
  dsimp only [Pt.U, Pt.locs, Pt.cells, Pt.slots] at X2 l2 y2 z2 st2 hQ2
  subst l2 y2 z2
  exact ⟨v, T2, Lc2, X2, hQ2, fun _ k => st2.trans k⟩
theorem callVt {C : String} (X : Stand p l e R s m args below meth c T locs cells slots) (hx : p.tables.exec = Jvm.exec) (hZ : Z.Warmed39 s.vm) (hown : s.vm.findClass own = some m.cls)
    (w1 : (Jvm.Cond.methodLink own index y).before a0 Z = true) (w2 : (Jvm.Cond.declares y).before a0 Z = true) (w3 : (Jvm.Cond.selects C y y).before a0 Z = true) (w4 : (Jvm.Cond.instanceMethod y).before a0 Z = true) (w5 : (Jvm.Cond.initialized y.cls).before a0 Z = true) (w6 : (Jvm.Cond.code y bytes maxL ret).before a0 Z = true)
    (hy : y.cls ≠ "java/lang/invoke/MethodHandle" ∧ y.cls ≠ "java/lang/invoke/VarHandle")
    {a : Addr} (hC : Con FrameEnd l Z y bytes maxL ret rm (.ref a :: argsL).toArray h Qc) (eT : T.heap = h) (EA : Exa Z h a C) (hf : rm.frames + 1 ≤ R.frames) (hl : W + (maxL + 11) + rm.locals ≤ R.locals) (hc : cells + rm.cells ≤ R.cells) (hs : slots + rm.slots ≤ R.slots)
    (hg : g.method = m) (hsize : g.locals.size = c.maxLocals) (hlen : ∀ sig, parseMethodDescriptor y.desc = some sig → argsL.length = sig.parameters.length) (hstack : g.stack = argsL.reverse ++ .ref a :: rest) (hW : 2 * g.monitorRoom + (rest.map fun v => v.category).sum ≤ W) (hdg : decode c.code g.pc = .ok (.invokevirtual index, 3)) :
    ∃ (v : Option Value) (T' : State) (L : List Loc), Stand p l e R s m args below meth c T' (locs ++ L) (cells + rm.cells) (slots + rm.slots) ∧ Qc v T'.heap L ∧ ∀ target, Steps p.tables e below (T'.setTop { g with pc := g.pc + 3, stack := v.toList ++ rest }) target → Steps p.tables e below (T.setTop g) target := by
  obtain ⟨cq, kq, qa, qb, qc⟩ := isOf hZ eT EA
  obtain ⟨v, _, ⟨T2, L2, k2, n2⟩, -, X2, ⟨Lc2, hQ2, l2, y2, z2⟩, st2⟩ := X.virtualBack hx hown (mvT hZ w1) (mvT hZ w2) (notFace_of_selects (args := #[]) (mvT hZ w3)) (mvT hZ w3) (mvT hZ w4) hy (backOf (W := W) hC hZ w6 w5 hf hl) qa qc hg hsize (Steps.refl _) hlen hstack hW hdg (fun _ _ => ⟨rfl, eT, hc, hs⟩)
  dsimp only [Pt.U, Pt.locs, Pt.cells, Pt.slots] at X2 l2 y2 z2 st2 hQ2
  subst l2 y2 z2
  exact ⟨v, T2, Lc2, X2, hQ2, fun _ k => st2.trans k⟩
theorem callVUt {C owner : String} (X : Stand p l e R s m args below meth c T locs cells slots) (hx : p.tables.exec = Jvm.exec) (hZ : Z.Warmed39 s.vm) (hown : s.vm.findClass own = some m.cls)
    (w1 : (Jvm.Cond.methodLink own index y).before a0 Z = true) (w1' : (Jvm.Cond.sameMethod y.cls owner y.name y.desc).before a0 Z = true) (w2 : (Jvm.Cond.declares ⟨owner, y.name, y.desc⟩).before a0 Z = true) (w3 : (Jvm.Cond.selects C y z).before a0 Z = true) (w4 : (Jvm.Cond.instanceMethod z).before a0 Z = true) (w5 : (Jvm.Cond.initialized z.cls).before a0 Z = true) (w6 : (Jvm.Cond.code z bytes maxL ret).before a0 Z = true)
    (hy : owner ≠ "java/lang/invoke/MethodHandle" ∧ owner ≠ "java/lang/invoke/VarHandle")
    {a : Addr} (hC : Con FrameEnd l Z z bytes maxL ret rm (.ref a :: argsL).toArray h Qc) (eT : T.heap = h) (EA : Exa Z h a C) (hf : rm.frames + 1 ≤ R.frames) (hl : W + (maxL + 11) + rm.locals ≤ R.locals) (hc : cells + rm.cells ≤ R.cells) (hs : slots + rm.slots ≤ R.slots)
    (hg : g.method = m) (hsize : g.locals.size = c.maxLocals) (hlen : ∀ sig, parseMethodDescriptor y.desc = some sig → argsL.length = sig.parameters.length) (hstack : g.stack = argsL.reverse ++ .ref a :: rest) (hW : 2 * g.monitorRoom + (rest.map fun v => v.category).sum ≤ W) (hdg : decode c.code g.pc = .ok (.invokevirtual index, 3)) :
    ∃ (v : Option Value) (T' : State) (L : List Loc), Stand p l e R s m args below meth c T' (locs ++ L) (cells + rm.cells) (slots + rm.slots) ∧ Qc v T'.heap L ∧ ∀ target, Steps p.tables e below (T'.setTop { g with pc := g.pc + 3, stack := v.toList ++ rest }) target → Steps p.tables e below (T.setTop g) target := by
  obtain ⟨cq, kq, qa, qb, qc⟩ := isOf hZ eT EA
  obtain ⟨v, _, ⟨T2, L2, k2, n2⟩, -, X2, ⟨Lc2, hQ2, l2, y2, z2⟩, st2⟩ := X.virtualBackUp hx hown (mvT hZ w1) (mvT hZ w1') (mvT hZ w2) hy (mvT hZ w3) (mvT hZ w4) (backOf (W := W) hC hZ w6 w5 hf hl) qa qc hg hsize (Steps.refl _) hlen hstack hW hdg (fun _ _ => ⟨rfl, eT, hc, hs⟩)
  dsimp only [Pt.U, Pt.locs, Pt.cells, Pt.slots] at X2 l2 y2 z2 st2 hQ2
  subst l2 y2 z2
  exact ⟨v, T2, Lc2, X2, hQ2, fun _ k => st2.trans k⟩
end Calls
end OwnKit
theorem w_0 : (Jvm.Cond.methodLink "com/example/termspan/termspan/eval/JudgmentOfPinLaw" (19 : Nat) ({ cls := "java/lang/Math", name := "min", desc := "(II)I" } : Jvm.MethodName)) ∈ tables_1 := List.mem_of_getElem? (i := 0) rfl
theorem w_1 : (Jvm.Cond.static ({ cls := "java/lang/Math", name := "min", desc := "(II)I" } : Jvm.MethodName)) ∈ tables_1 := List.mem_of_getElem? (i := 1) rfl
theorem w_2 : (Jvm.Cond.initialized "java/lang/Math") ∈ tables_1 := List.mem_of_getElem? (i := 2) rfl
theorem w_3 : (Jvm.Cond.code ({ cls := "java/lang/Math", name := "min", desc := "(II)I" } : Jvm.MethodName) jdk_29_method_69_code (2 : Nat) (Option.some Jvm.ClassFile.FieldType.int)) ∈ tables_1 := List.mem_of_getElem? (i := 3) rfl
theorem w_4 : (Jvm.Cond.methodLink "com/example/termspan/termspan/eval/JudgmentOfPinLaw" (25 : Nat) ({ cls := "java/lang/Math", name := "max", desc := "(II)I" } : Jvm.MethodName)) ∈ tables_1 := List.mem_of_getElem? (i := 4) rfl
theorem w_5 : (Jvm.Cond.static ({ cls := "java/lang/Math", name := "max", desc := "(II)I" } : Jvm.MethodName)) ∈ tables_1 := List.mem_of_getElem? (i := 5) rfl
theorem w_6 : (Jvm.Cond.code ({ cls := "java/lang/Math", name := "max", desc := "(II)I" } : Jvm.MethodName) jdk_29_method_65_code (2 : Nat) (Option.some Jvm.ClassFile.FieldType.int)) ∈ tables_1 := List.mem_of_getElem? (i := 6) rfl
theorem w_7 : (Jvm.Cond.methodLink "com/example/termspan/termspan/eval/JudgmentOfPinLaw" (28 : Nat) ({ cls := "com/example/termspan/termspan/eval/TopicJudgments$Judgment", name := "of", desc := "(I)Lcom/example/termspan/termspan/eval/TopicJudgments$Judgment;" } : Jvm.MethodName)) ∈ tables_1 := List.mem_of_getElem? (i := 7) rfl
theorem w_8 : (Jvm.Cond.static ({ cls := "com/example/termspan/termspan/eval/TopicJudgments$Judgment", name := "of", desc := "(I)Lcom/example/termspan/termspan/eval/TopicJudgments$Judgment;" } : Jvm.MethodName)) ∈ tables_1 := List.mem_of_getElem? (i := 8) rfl
theorem w_9 : (Jvm.Cond.initialized "com/example/termspan/termspan/eval/TopicJudgments$Judgment") ∈ tables_1 := List.mem_of_getElem? (i := 9) rfl
theorem w_10 : (Jvm.Cond.code ({ cls := "com/example/termspan/termspan/eval/TopicJudgments$Judgment", name := "of", desc := "(I)Lcom/example/termspan/termspan/eval/TopicJudgments$Judgment;" } : Jvm.MethodName) prog_17_method_4_code (1 : Nat) (Option.some (Jvm.ClassFile.FieldType.object "com/example/termspan/termspan/eval/TopicJudgments$Judgment"))) ∈ tables_1 := List.mem_of_getElem? (i := 10) rfl
theorem w_11 : (Jvm.Cond.fieldLink "com/example/termspan/termspan/eval/TopicJudgments$Judgment" (7 : Nat) "com/example/termspan/termspan/eval/TopicJudgments$Judgment" "NON_RELEVANT" "Lcom/example/termspan/termspan/eval/TopicJudgments$Judgment;") ∈ tables_1 := List.mem_of_getElem? (i := 11) rfl
theorem w_12 : (Jvm.Cond.laysStatic "com/example/termspan/termspan/eval/TopicJudgments$Judgment" "NON_RELEVANT" "Lcom/example/termspan/termspan/eval/TopicJudgments$Judgment;") ∈ tables_1 := List.mem_of_getElem? (i := 12) rfl
theorem w_13 : (Jvm.Cond.methodLink "com/example/termspan/termspan/eval/JudgmentOfPinLaw" (32 : Nat) ({ cls := "com/example/termspan/termspan/eval/JudgmentOfPinLaw", name := "rank", desc := "(Lcom/example/termspan/termspan/eval/TopicJudgments$Judgment;)I" } : Jvm.MethodName)) ∈ tables_1 := List.mem_of_getElem? (i := 13) rfl
theorem w_14 : (Jvm.Cond.static ({ cls := "com/example/termspan/termspan/eval/JudgmentOfPinLaw", name := "rank", desc := "(Lcom/example/termspan/termspan/eval/TopicJudgments$Judgment;)I" } : Jvm.MethodName)) ∈ tables_1 := List.mem_of_getElem? (i := 14) rfl
theorem w_15 : (Jvm.Cond.initialized "com/example/termspan/termspan/eval/JudgmentOfPinLaw") ∈ tables_1 := List.mem_of_getElem? (i := 15) rfl
theorem w_16 : (Jvm.Cond.code ({ cls := "com/example/termspan/termspan/eval/JudgmentOfPinLaw", name := "rank", desc := "(Lcom/example/termspan/termspan/eval/TopicJudgments$Judgment;)I" } : Jvm.MethodName) method_2_code (1 : Nat) (Option.some Jvm.ClassFile.FieldType.int)) ∈ tables_1 := List.mem_of_getElem? (i := 16) rfl
theorem w_17 : (Jvm.Cond.fieldLink "com/example/termspan/termspan/eval/JudgmentOfPinLaw" (7 : Nat) "com/example/termspan/termspan/eval/TopicJudgments$Judgment" "UNJUDGED" "Lcom/example/termspan/termspan/eval/TopicJudgments$Judgment;") ∈ tables_1 := List.mem_of_getElem? (i := 17) rfl
theorem w_18 : (Jvm.Cond.laysStatic "com/example/termspan/termspan/eval/TopicJudgments$Judgment" "UNJUDGED" "Lcom/example/termspan/termspan/eval/TopicJudgments$Judgment;") ∈ tables_1 := List.mem_of_getElem? (i := 18) rfl
theorem w_19 : (Jvm.Cond.fieldLink "com/example/termspan/termspan/eval/JudgmentOfPinLaw" (13 : Nat) "com/example/termspan/termspan/eval/TopicJudgments$Judgment" "NON_RELEVANT" "Lcom/example/termspan/termspan/eval/TopicJudgments$Judgment;") ∈ tables_1 := List.mem_of_getElem? (i := 19) rfl
theorem w_20 : (Jvm.Cond.fieldLink "com/example/termspan/termspan/eval/TopicJudgments$Judgment" (3 : Nat) "com/example/termspan/termspan/eval/TopicJudgments$Judgment" "RELEVANT" "Lcom/example/termspan/termspan/eval/TopicJudgments$Judgment;") ∈ tables_1 := List.mem_of_getElem? (i := 20) rfl
theorem w_21 : (Jvm.Cond.laysStatic "com/example/termspan/termspan/eval/TopicJudgments$Judgment" "RELEVANT" "Lcom/example/termspan/termspan/eval/TopicJudgments$Judgment;") ∈ tables_1 := List.mem_of_getElem? (i := 21) rfl
theorem w_22 : (Jvm.Cond.fieldLink "com/example/termspan/termspan/eval/JudgmentOfPinLaw" (16 : Nat) "com/example/termspan/termspan/eval/TopicJudgments$Judgment" "RELEVANT" "Lcom/example/termspan/termspan/eval/TopicJudgments$Judgment;") ∈ tables_1 := List.mem_of_getElem? (i := 22) rfl
theorem w_23 : (Jvm.Cond.fieldLink "com/example/termspan/termspan/eval/TopicJudgments$Judgment" (10 : Nat) "com/example/termspan/termspan/eval/TopicJudgments$Judgment" "UNJUDGED" "Lcom/example/termspan/termspan/eval/TopicJudgments$Judgment;") ∈ tables_1 := List.mem_of_getElem? (i := 23) rfl
theorem d1_0 : decode jdk_29_method_69_code 0 = .ok (.iload_n 0, 1) := by decide +kernel
theorem d1_1 : decode jdk_29_method_69_code 1 = .ok (.iload_n 1, 1) := by decide +kernel
theorem d1_2 : decode jdk_29_method_69_code 2 = .ok (.if_icmp .gt 7, 3) := by decide +kernel
theorem d1_9 : decode jdk_29_method_69_code 9 = .ok (.iload_n 1, 1) := by decide +kernel
theorem d1_10 : decode jdk_29_method_69_code 10 = .ok (.ireturn, 1) := by decide +kernel
theorem d1_5 : decode jdk_29_method_69_code 5 = .ok (.iload_n 0, 1) := by decide +kernel
theorem d1_6 : decode jdk_29_method_69_code 6 = .ok (.goto 4, 3) := by decide +kernel
theorem d2_0 : decode jdk_29_method_65_code 0 = .ok (.iload_n 0, 1) := by decide +kernel
theorem d2_1 : decode jdk_29_method_65_code 1 = .ok (.iload_n 1, 1) := by decide +kernel
theorem d2_2 : decode jdk_29_method_65_code 2 = .ok (.if_icmp .lt 7, 3) := by decide +kernel
theorem d2_9 : decode jdk_29_method_65_code 9 = .ok (.iload_n 1, 1) := by decide +kernel
theorem d2_10 : decode jdk_29_method_65_code 10 = .ok (.ireturn, 1) := by decide +kernel
theorem d2_5 : decode jdk_29_method_65_code 5 = .ok (.iload_n 0, 1) := by decide +kernel
theorem d2_6 : decode jdk_29_method_65_code 6 = .ok (.goto 4, 3) := by decide +kernel
theorem pn_com_example_termspan_termspan_eval_TopicJudgments_Judgment : plainName "com/example/termspan/termspan/eval/TopicJudgments$Judgment" = true := by first | (simp [plainName, overriddenIn]; done) | decide +kernel
theorem d3_0 : decode prog_17_method_4_code 0 = .ok (.iload_n 0, 1) := by decide +kernel
theorem d3_1 : decode prog_17_method_4_code 1 = .ok (.ifCond .ge 7, 3) := by decide +kernel
theorem d3_4 : decode prog_17_method_4_code 4 = .ok (.getstatic 10, 3) := by decide +kernel
theorem d3_7 : decode prog_17_method_4_code 7 = .ok (.areturn, 1) := by decide +kernel
theorem d3_8 : decode prog_17_method_4_code 8 = .ok (.iload_n 0, 1) := by decide +kernel
theorem d3_9 : decode prog_17_method_4_code 9 = .ok (.ifCond .le 9, 3) := by decide +kernel
theorem d3_12 : decode prog_17_method_4_code 12 = .ok (.getstatic 3, 3) := by decide +kernel
theorem d3_15 : decode prog_17_method_4_code 15 = .ok (.goto 6, 3) := by decide +kernel
theorem d3_21 : decode prog_17_method_4_code 21 = .ok (.areturn, 1) := by decide +kernel
theorem d3_18 : decode prog_17_method_4_code 18 = .ok (.getstatic 7, 3) := by decide +kernel
theorem pn_com_example_termspan_termspan_eval_JudgmentOfPinLaw : plainName "com/example/termspan/termspan/eval/JudgmentOfPinLaw" = true := by first | (simp [plainName, overriddenIn]; done) | decide +kernel
theorem d4_0 : decode method_2_code 0 = .ok (.aload_n 0, 1) := by decide +kernel
theorem d4_1 : decode method_2_code 1 = .ok (.getstatic 7, 3) := by decide +kernel
theorem d4_4 : decode method_2_code 4 = .ok (.if_acmp .ne 5, 3) := by decide +kernel
theorem d4_7 : decode method_2_code 7 = .ok (.iconst 0, 1) := by decide +kernel
theorem d4_8 : decode method_2_code 8 = .ok (.ireturn, 1) := by decide +kernel
theorem d4_9 : decode method_2_code 9 = .ok (.aload_n 0, 1) := by decide +kernel
theorem d4_10 : decode method_2_code 10 = .ok (.getstatic 13, 3) := by decide +kernel
theorem d4_13 : decode method_2_code 13 = .ok (.if_acmp .ne 5, 3) := by decide +kernel
theorem d4_16 : decode method_2_code 16 = .ok (.iconst 1, 1) := by decide +kernel
theorem d4_17 : decode method_2_code 17 = .ok (.ireturn, 1) := by decide +kernel
theorem d4_18 : decode method_2_code 18 = .ok (.aload_n 0, 1) := by decide +kernel
theorem d4_19 : decode method_2_code 19 = .ok (.getstatic 16, 3) := by decide +kernel
theorem d4_22 : decode method_2_code 22 = .ok (.if_acmp .ne 5, 3) := by decide +kernel
theorem d4_25 : decode method_2_code 25 = .ok (.iconst 2, 1) := by decide +kernel
theorem d4_26 : decode method_2_code 26 = .ok (.ireturn, 1) := by decide +kernel
theorem pd_oIIcI : parseMethodDescriptor "(II)I" = some ⟨[.int, .int], some .int⟩ := by decide +kernel
theorem pd_oIcLcom_example_termspan_termspan_eval_TopicJudgmentsxJudgment_ : parseMethodDescriptor "(I)Lcom/example/termspan/termspan/eval/TopicJudgments$Judgment;" = some ⟨[.int], some (.object "com/example/termspan/termspan/eval/TopicJudgments$Judgment")⟩ := by decide +kernel
theorem pd_oLcom_example_termspan_termspan_eval_TopicJudgmentsxJudgment_cI : parseMethodDescriptor "(Lcom/example/termspan/termspan/eval/TopicJudgments$Judgment;)I" = some ⟨[(.object "com/example/termspan/termspan/eval/TopicJudgments$Judgment")], some .int⟩ := by decide +kernel
theorem fldOf {s : State} {args : Array Value} {t : Term} {a : Addr} {C n d : String} {k : Int32} (ev : t.eval args s none [] s = some (.ref a)) (h : (Jvm.Cond.eq (.field t C n d) (.int k)).value args s none s [] = some true) : Fld s s.heap a C n d (.int k) :=
  Fld.start ((fld_at ev).symm.trans (eqv_i (F := .int k) rfl h))
set_option maxRecDepth 65536 in
set_option maxHeartbeats 40000000 in
theorem rmMin (l : Launch) (Z : State) (a0 : Array Value) (hw : ∀ d ∈ tables_1, d.before a0 Z = true) (n0 : Nat) (h0 : Heap) (O : Old Z n0 h0) (x y : Int32) :
    ConW FrameEnd l Z [] (⟨"java/lang/Math", "min", "(II)I"⟩ : MethodName) jdk_29_method_69_code 2 (some .int) ({ frames := 0, cells := 0, slots := 0, locals := 0 } : Room) #[(.int x), (.int y)] h0 (Pure h0 (some (.int (if y < x then y else x)))) := by
  refine conOf (by decide +kernel) ?_
  intro p e s m below meth c s₁ X0 hx hby hml hown hnm hret hlk hZ e0
  have N0 := Fr.nil n0
  refine Fin.came (castTop (t := _) (by first | (simp [entryFrame, mkF, argsToLocals, Value.category]; done) | rfl) (Steps.refl _) : Steps p.tables e below (s₁.setTop (entryFrame m #[(.int x), (.int y)] 2)) (s₁.setTop (mkF m 0 #[.val (.int x), .val (.int y)] []))) ?_
  show Fin _ p e below s _ _ _ s₁ (mkF m 0 #[.val (.int x), .val (.int y)] [])
  refine Fin.go (fun _ k => XS.iloadN X0.here hx rfl (hb hby d1_0) rfl k) ?_
  show Fin _ p e below s _ _ _ s₁ (mkF m 1 #[.val (.int x), .val (.int y)] [(.int x)])
  refine Fin.go (fun _ k => XS.iloadN X0.here hx rfl (hb hby d1_1) rfl k) ?_
  show Fin _ p e below s _ _ _ s₁ (mkF m 2 #[.val (.int x), .val (.int y)] [(.int y), (.int x)])
  by_cases c2 : y < x
  · refine Fin.go (fun _ k => XS.icmpYes X0.here hx rfl (pc0 := 2) (pc' := 9) rfl (hb hby d1_2) rfl (XT.ii_gt_t c2) (by decide) (by decide) k) ?_
    show Fin _ p e below s _ _ _ s₁ (mkF m 9 #[.val (.int x), .val (.int y)] [])
    refine Fin.go (fun _ k => XS.iloadN X0.here hx rfl (hb hby d1_9) rfl k) ?_
    show Fin _ p e below s _ _ _ s₁ (mkF m 10 #[.val (.int x), .val (.int y)] [(.int y)])
    exact Fin.leaveN X0 e0 hlk (v := some (.int y)) (fun h => by rw [hret] at h; cases h) (by decide) (by decide) ⟨by simp [c2], rfl, rfl⟩ (fun fs hr => retI X0 hx hret (hb hby d1_10) hr)
  · refine Fin.go (fun _ k => XS.icmpNo X0.here hx rfl (hb hby d1_2) rfl (XT.ii_gt_f c2) k) ?_
    show Fin _ p e below s _ _ _ s₁ (mkF m 5 #[.val (.int x), .val (.int y)] [])
    refine Fin.go (fun _ k => XS.iloadN X0.here hx rfl (hb hby d1_5) rfl k) ?_
    show Fin _ p e below s _ _ _ s₁ (mkF m 6 #[.val (.int x), .val (.int y)] [(.int x)])
    refine Fin.go (fun _ k => XS.goto X0.here hx rfl (pc0 := 6) (pc' := 10) rfl (hb hby d1_6) (by decide) (by decide) k) ?_
    show Fin _ p e below s _ _ _ s₁ (mkF m 10 #[.val (.int x), .val (.int y)] [(.int x)])
    exact Fin.leaveN X0 e0 hlk (v := some (.int x)) (fun h => by rw [hret] at h; cases h) (by decide) (by decide) ⟨by simp [c2], rfl, rfl⟩ (fun fs hr => retI X0 hx hret (hb hby d1_10) hr)
set_option maxRecDepth 65536 in
set_option maxHeartbeats 40000000 in
theorem rmMax (l : Launch) (Z : State) (a0 : Array Value) (hw : ∀ d ∈ tables_1, d.before a0 Z = true) (n0 : Nat) (h0 : Heap) (O : Old Z n0 h0) (x y : Int32) :
    ConW FrameEnd l Z [] (⟨"java/lang/Math", "max", "(II)I"⟩ : MethodName) jdk_29_method_65_code 2 (some .int) ({ frames := 0, cells := 0, slots := 0, locals := 0 } : Room) #[(.int x), (.int y)] h0 (Pure h0 (some (.int (if x < y then y else x)))) := by
  refine conOf (by decide +kernel) ?_
  intro p e s m below meth c s₁ X0 hx hby hml hown hnm hret hlk hZ e0
  have N0 := Fr.nil n0
  refine Fin.came (castTop (t := _) (by first | (simp [entryFrame, mkF, argsToLocals, Value.category]; done) | rfl) (Steps.refl _) : Steps p.tables e below (s₁.setTop (entryFrame m #[(.int x), (.int y)] 2)) (s₁.setTop (mkF m 0 #[.val (.int x), .val (.int y)] []))) ?_
  show Fin _ p e below s _ _ _ s₁ (mkF m 0 #[.val (.int x), .val (.int y)] [])
  refine Fin.go (fun _ k => XS.iloadN X0.here hx rfl (hb hby d2_0) rfl k) ?_
  show Fin _ p e below s _ _ _ s₁ (mkF m 1 #[.val (.int x), .val (.int y)] [(.int x)])
  refine Fin.go (fun _ k => XS.iloadN X0.here hx rfl (hb hby d2_1) rfl k) ?_
  show Fin _ p e below s _ _ _ s₁ (mkF m 2 #[.val (.int x), .val (.int y)] [(.int y), (.int x)])
  by_cases c2 : x < y
  · refine Fin.go (fun _ k => XS.icmpYes X0.here hx rfl (pc0 := 2) (pc' := 9) rfl (hb hby d2_2) rfl (XT.ii_lt_t c2) (by decide) (by decide) k) ?_
    show Fin _ p e below s _ _ _ s₁ (mkF m 9 #[.val (.int x), .val (.int y)] [])
    refine Fin.go (fun _ k => XS.iloadN X0.here hx rfl (hb hby d2_9) rfl k) ?_
    show Fin _ p e below s _ _ _ s₁ (mkF m 10 #[.val (.int x), .val (.int y)] [(.int y)])
    exact Fin.leaveN X0 e0 hlk (v := some (.int y)) (fun h => by rw [hret] at h; cases h) (by decide) (by decide) ⟨by simp [c2], rfl, rfl⟩ (fun fs hr => retI X0 hx hret (hb hby d2_10) hr)
  · refine Fin.go (fun _ k => XS.icmpNo X0.here hx rfl (hb hby d2_2) rfl (XT.ii_lt_f c2) k) ?_
    show Fin _ p e below s _ _ _ s₁ (mkF m 5 #[.val (.int x), .val (.int y)] [])
    refine Fin.go (fun _ k => XS.iloadN X0.here hx rfl (hb hby d2_5) rfl k) ?_
    show Fin _ p e below s _ _ _ s₁ (mkF m 6 #[.val (.int x), .val (.int y)] [(.int x)])
    refine Fin.go (fun _ k => XS.goto X0.here hx rfl (pc0 := 6) (pc' := 10) rfl (hb hby d2_6) (by decide) (by decide) k) ?_
    show Fin _ p e below s _ _ _ s₁ (mkF m 10 #[.val (.int x), .val (.int y)] [(.int x)])
    exact Fin.leaveN X0 e0 hlk (v := some (.int x)) (fun h => by rw [hret] at h; cases h) (by decide) (by decide) ⟨by simp [c2], rfl, rfl⟩ (fun fs hr => retI X0 hx hret (hb hby d2_10) hr)
/-- the address that 'of' hands back -/
def ofA (x : Int32) (aU aN aR : Addr) : Addr := if x < 0 then aU else if 0 < x then aR else aN
def rkI (x : Int32) : Int32 := if x < 0 then 0 else if 0 < x then 2 else 1
set_option maxRecDepth 65536 in
set_option maxHeartbeats 40000000 in
theorem rmOf (l : Launch) (Z : State) (a0 : Array Value) (hw : ∀ d ∈ tables_1, d.before a0 Z = true) (n0 : Nat) (h0 : Heap) (O : Old Z n0 h0) (x : Int32) (aU aN aR : Addr) (S_aU : Sta Z Z.heap "com/example/termspan/termspan/eval/TopicJudgments$Judgment" "UNJUDGED" "Lcom/example/termspan/termspan/eval/TopicJudgments$Judgment;" (.ref aU)) (S_aN : Sta Z Z.heap "com/example/termspan/termspan/eval/TopicJudgments$Judgment" "NON_RELEVANT" "Lcom/example/termspan/termspan/eval/TopicJudgments$Judgment;" (.ref aN)) (S_aR : Sta Z Z.heap "com/example/termspan/termspan/eval/TopicJudgments$Judgment" "RELEVANT" "Lcom/example/termspan/termspan/eval/TopicJudgments$Judgment;" (.ref aR)) :
    ConW FrameEnd l Z [] (⟨"com/example/termspan/termspan/eval/TopicJudgments$Judgment", "of", "(I)Lcom/example/termspan/termspan/eval/TopicJudgments$Judgment;"⟩ : MethodName) prog_17_method_4_code 1 (some (.object "com/example/termspan/termspan/eval/TopicJudgments$Judgment")) ({ frames := 0, cells := 0, slots := 0, locals := 0 } : Room) #[(.int x)] h0 (Pure h0 (some (.ref (ofA x aU aN aR)))) := by
  refine conOf (plainFor_of_name pn_com_example_termspan_termspan_eval_TopicJudgments_Judgment) ?_
  intro p e s m below meth c s₁ X0 hx hby hml hown hnm hret hlk hZ e0
  have N0 := Fr.nil n0
  refine Fin.came (castTop (t := _) (by first | (simp [entryFrame, mkF, argsToLocals, Value.category]; done) | rfl) (Steps.refl _) : Steps p.tables e below (s₁.setTop (entryFrame m #[(.int x)] 1)) (s₁.setTop (mkF m 0 #[.val (.int x)] []))) ?_
  show Fin _ p e below s _ _ _ s₁ (mkF m 0 #[.val (.int x)] [])
  refine Fin.go (fun _ k => XS.iloadN X0.here hx rfl (hb hby d3_0) rfl k) ?_
  show Fin _ p e below s _ _ _ s₁ (mkF m 1 #[.val (.int x)] [(.int x)])
  by_cases c1 : x < 0
  · refine Fin.go (fun _ k => XS.ifNo X0.here hx rfl (hb hby d3_1) rfl (XT.i0_ge_f c1) k) ?_
    show Fin _ p e below s _ _ _ s₁ (mkF m 4 #[.val (.int x)] [])
    obtain ⟨T1, X1, e1, st1⟩ := getS2 X0 hx hZ hown (host := "") (Or.inl (hw _ w_23)) Via.refl e0 (S_aU.ext O.2) (g := (mkF m 4 #[.val (.int x)] [])) rfl (hb hby d3_4)
    refine Fin.go st1 ?_
    show Fin _ p e below s _ _ _ T1 (mkF m 7 #[.val (.int x)] [(.ref aU)])
    exact Fin.leaveN X1 e1 hlk (v := some (.ref aU)) (fun h => by rw [hret] at h; cases h) (by decide) (by decide) ⟨by simp [ofA, c1], rfl, rfl⟩ (fun fs hr => retOut X1 hx hret rfl (Or.inr (Or.inr (Or.inr (Or.inr ⟨rfl, rfl, rfl⟩)))) (hb hby d3_7) hr)
  · refine Fin.go (fun _ k => XS.ifYes X0.here hx rfl (pc0 := 1) (pc' := 8) rfl (hb hby d3_1) rfl (XT.i0_ge_t c1) (by decide) (by decide) k) ?_
    show Fin _ p e below s _ _ _ s₁ (mkF m 8 #[.val (.int x)] [])
    refine Fin.go (fun _ k => XS.iloadN X0.here hx rfl (hb hby d3_8) rfl k) ?_
    show Fin _ p e below s _ _ _ s₁ (mkF m 9 #[.val (.int x)] [(.int x)])
    by_cases c9 : 0 < x
    · refine Fin.go (fun _ k => XS.ifNo X0.here hx rfl (hb hby d3_9) rfl (XT.i0_le_f c9) k) ?_
      show Fin _ p e below s _ _ _ s₁ (mkF m 12 #[.val (.int x)] [])
      obtain ⟨T2, X2, e2, st2⟩ := getS2 X0 hx hZ hown (host := "") (Or.inl (hw _ w_20)) Via.refl e0 (S_aR.ext O.2) (g := (mkF m 12 #[.val (.int x)] [])) rfl (hb hby d3_12)
      refine Fin.go st2 ?_
      show Fin _ p e below s _ _ _ T2 (mkF m 15 #[.val (.int x)] [(.ref aR)])
      refine Fin.go (fun _ k => XS.goto X2.here hx rfl (pc0 := 15) (pc' := 21) rfl (hb hby d3_15) (by decide) (by decide) k) ?_
      show Fin _ p e below s _ _ _ T2 (mkF m 21 #[.val (.int x)] [(.ref aR)])
      exact Fin.leaveN X2 e2 hlk (v := some (.ref aR)) (fun h => by rw [hret] at h; cases h) (by decide) (by decide) ⟨by simp [ofA, c1, c9], rfl, rfl⟩ (fun fs hr => retOut X2 hx hret rfl (Or.inr (Or.inr (Or.inr (Or.inr ⟨rfl, rfl, rfl⟩)))) (hb hby d3_21) hr)
    · refine Fin.go (fun _ k => XS.ifYes X0.here hx rfl (pc0 := 9) (pc' := 18) rfl (hb hby d3_9) rfl (XT.i0_le_t c9) (by decide) (by decide) k) ?_
      show Fin _ p e below s _ _ _ s₁ (mkF m 18 #[.val (.int x)] [])
      obtain ⟨T3, X3, e3, st3⟩ := getS2 X0 hx hZ hown (host := "") (Or.inl (hw _ w_11)) Via.refl e0 (S_aN.ext O.2) (g := (mkF m 18 #[.val (.int x)] [])) rfl (hb hby d3_18)
      refine Fin.go st3 ?_
      show Fin _ p e below s _ _ _ T3 (mkF m 21 #[.val (.int x)] [(.ref aN)])
      exact Fin.leaveN X3 e3 hlk (v := some (.ref aN)) (fun h => by rw [hret] at h; cases h) (by decide) (by decide) ⟨by simp [ofA, c1, c9], rfl, rfl⟩ (fun fs hr => retOut X3 hx hret rfl (Or.inr (Or.inr (Or.inr (Or.inr ⟨rfl, rfl, rfl⟩)))) (hb hby d3_21) hr)
set_option maxRecDepth 65536 in
set_option maxHeartbeats 40000000 in
theorem rmRkaU (l : Launch) (Z : State) (a0 : Array Value) (hw : ∀ d ∈ tables_1, d.before a0 Z = true) (n0 : Nat) (h0 : Heap) (O : Old Z n0 h0) (aU aN aR : Addr) (S_aU : Sta Z Z.heap "com/example/termspan/termspan/eval/TopicJudgments$Judgment" "UNJUDGED" "Lcom/example/termspan/termspan/eval/TopicJudgments$Judgment;" (.ref aU)) (S_aN : Sta Z Z.heap "com/example/termspan/termspan/eval/TopicJudgments$Judgment" "NON_RELEVANT" "Lcom/example/termspan/termspan/eval/TopicJudgments$Judgment;" (.ref aN)) (S_aR : Sta Z Z.heap "com/example/termspan/termspan/eval/TopicJudgments$Judgment" "RELEVANT" "Lcom/example/termspan/termspan/eval/TopicJudgments$Judgment;" (.ref aR)) (nUN : ¬ aU = aN) (nUR : ¬ aU = aR) (nNR : ¬ aN = aR) :
    ConW FrameEnd l Z [] (⟨"com/example/termspan/termspan/eval/JudgmentOfPinLaw", "rank", "(Lcom/example/termspan/termspan/eval/TopicJudgments$Judgment;)I"⟩ : MethodName) method_2_code 1 (some .int) ({ frames := 0, cells := 0, slots := 0, locals := 0 } : Room) #[(.ref aU)] h0 (Pure h0 (some (.int (0 : Int32)))) := by
  refine conOf (plainFor_of_name pn_com_example_termspan_termspan_eval_JudgmentOfPinLaw) ?_
  intro p e s m below meth c s₁ X0 hx hby hml hown hnm hret hlk hZ e0
  have N0 := Fr.nil n0
  refine Fin.came (castTop (t := _) (by first | (simp [entryFrame, mkF, argsToLocals, Value.category]; done) | rfl) (Steps.refl _) : Steps p.tables e below (s₁.setTop (entryFrame m #[(.ref aU)] 1)) (s₁.setTop (mkF m 0 #[.val (.ref aU)] []))) ?_
  show Fin _ p e below s _ _ _ s₁ (mkF m 0 #[.val (.ref aU)] [])
  refine Fin.go (fun _ k => XS.aloadN X0.here hx rfl (hb hby d4_0) rfl rfl k) ?_
  show Fin _ p e below s _ _ _ s₁ (mkF m 1 #[.val (.ref aU)] [(.ref aU)])
  obtain ⟨T1, X1, e1, st1⟩ := getS2 X0 hx hZ hown (host := "") (Or.inl (hw _ w_17)) Via.refl e0 (S_aU.ext O.2) (g := (mkF m 1 #[.val (.ref aU)] [(.ref aU)])) rfl (hb hby d4_1)
  refine Fin.go st1 ?_
  show Fin _ p e below s _ _ _ T1 (mkF m 4 #[.val (.ref aU)] [(.ref aU), (.ref aU)])
  refine Fin.go (fun _ k => XT.acmpNo X1.here hx rfl (hb hby d4_4) rfl rfl rfl (XT.aa_ne_f rfl) k) ?_
  show Fin _ p e below s _ _ _ T1 (mkF m 7 #[.val (.ref aU)] [])
  refine Fin.go (fun _ k => XS.iconst X1.here hx rfl (hb hby d4_7) k) ?_
  show Fin _ p e below s _ _ _ T1 (mkF m 8 #[.val (.ref aU)] [(.int (0 : Int32))])
  exact Fin.leaveN X1 e1 hlk (v := some (.int (0 : Int32))) (fun h => by rw [hret] at h; cases h) (by decide) (by decide) ⟨rfl, rfl, rfl⟩ (fun fs hr => retI X1 hx hret (hb hby d4_8) hr)
set_option maxRecDepth 65536 in
set_option maxHeartbeats 40000000 in
theorem rmRkaN (l : Launch) (Z : State) (a0 : Array Value) (hw : ∀ d ∈ tables_1, d.before a0 Z = true) (n0 : Nat) (h0 : Heap) (O : Old Z n0 h0) (aU aN aR : Addr) (S_aU : Sta Z Z.heap "com/example/termspan/termspan/eval/TopicJudgments$Judgment" "UNJUDGED" "Lcom/example/termspan/termspan/eval/TopicJudgments$Judgment;" (.ref aU)) (S_aN : Sta Z Z.heap "com/example/termspan/termspan/eval/TopicJudgments$Judgment" "NON_RELEVANT" "Lcom/example/termspan/termspan/eval/TopicJudgments$Judgment;" (.ref aN)) (S_aR : Sta Z Z.heap "com/example/termspan/termspan/eval/TopicJudgments$Judgment" "RELEVANT" "Lcom/example/termspan/termspan/eval/TopicJudgments$Judgment;" (.ref aR)) (nUN : ¬ aU = aN) (nUR : ¬ aU = aR) (nNR : ¬ aN = aR) :
    ConW FrameEnd l Z [] (⟨"com/example/termspan/termspan/eval/JudgmentOfPinLaw", "rank", "(Lcom/example/termspan/termspan/eval/TopicJudgments$Judgment;)I"⟩ : MethodName) method_2_code 1 (some .int) ({ frames := 0, cells := 0, slots := 0, locals := 0 } : Room) #[(.ref aN)] h0 (Pure h0 (some (.int (1 : Int32)))) := by
  refine conOf (plainFor_of_name pn_com_example_termspan_termspan_eval_JudgmentOfPinLaw) ?_
  intro p e s m below meth c s₁ X0 hx hby hml hown hnm hret hlk hZ e0
  have N0 := Fr.nil n0
  refine Fin.came (castTop (t := _) (by first | (simp [entryFrame, mkF, argsToLocals, Value.category]; done) | rfl) (Steps.refl _) : Steps p.tables e below (s₁.setTop (entryFrame m #[(.ref aN)] 1)) (s₁.setTop (mkF m 0 #[.val (.ref aN)] []))) ?_
  show Fin _ p e below s _ _ _ s₁ (mkF m 0 #[.val (.ref aN)] [])
  refine Fin.go (fun _ k => XS.aloadN X0.here hx rfl (hb hby d4_0) rfl rfl k) ?_
  show Fin _ p e below s _ _ _ s₁ (mkF m 1 #[.val (.ref aN)] [(.ref aN)])
  obtain ⟨T1, X1, e1, st1⟩ := getS2 X0 hx hZ hown (host := "") (Or.inl (hw _ w_17)) Via.refl e0 (S_aU.ext O.2) (g := (mkF m 1 #[.val (.ref aN)] [(.ref aN)])) rfl (hb hby d4_1)
  refine Fin.go st1 ?_
  show Fin _ p e below s _ _ _ T1 (mkF m 4 #[.val (.ref aN)] [(.ref aU), (.ref aN)])
  refine Fin.go (fun _ k => XT.acmpYes X1.here hx rfl (pc0 := 4) (pc' := 9) rfl (hb hby d4_4) rfl rfl rfl (XT.aa_ne_t (fun q => (Ne.symm nUN) (Value.ref.inj q))) (by decide) (by decide) k) ?_
  show Fin _ p e below s _ _ _ T1 (mkF m 9 #[.val (.ref aN)] [])
  refine Fin.go (fun _ k => XS.aloadN X1.here hx rfl (hb hby d4_9) rfl rfl k) ?_
  show Fin _ p e below s _ _ _ T1 (mkF m 10 #[.val (.ref aN)] [(.ref aN)])
  obtain ⟨T2, X2, e2, st2⟩ := getS2 X1 hx hZ hown (host := "") (Or.inl (hw _ w_19)) Via.refl e1 (S_aN.ext O.2) (g := (mkF m 10 #[.val (.ref aN)] [(.ref aN)])) rfl (hb hby d4_10)
  refine Fin.go st2 ?_
  show Fin _ p e below s _ _ _ T2 (mkF m 13 #[.val (.ref aN)] [(.ref aN), (.ref aN)])
  refine Fin.go (fun _ k => XT.acmpNo X2.here hx rfl (hb hby d4_13) rfl rfl rfl (XT.aa_ne_f rfl) k) ?_
  show Fin _ p e below s _ _ _ T2 (mkF m 16 #[.val (.ref aN)] [])
  refine Fin.go (fun _ k => XS.iconst X2.here hx rfl (hb hby d4_16) k) ?_
  show Fin _ p e below s _ _ _ T2 (mkF m 17 #[.val (.ref aN)] [(.int (1 : Int32))])
  exact Fin.leaveN X2 e2 hlk (v := some (.int (1 : Int32))) (fun h => by rw [hret] at h; cases h) (by decide) (by decide) ⟨rfl, rfl, rfl⟩ (fun fs hr => retI X2 hx hret (hb hby d4_17) hr)
set_option maxRecDepth 65536 in
set_option maxHeartbeats 40000000 in
theorem rmRkaR (l : Launch) (Z : State) (a0 : Array Value) (hw : ∀ d ∈ tables_1, d.before a0 Z = true) (n0 : Nat) (h0 : Heap) (O : Old Z n0 h0) (aU aN aR : Addr) (S_aU : Sta Z Z.heap "com/example/termspan/termspan/eval/TopicJudgments$Judgment" "UNJUDGED" "Lcom/example/termspan/termspan/eval/TopicJudgments$Judgment;" (.ref aU)) (S_aN : Sta Z Z.heap "com/example/termspan/termspan/eval/TopicJudgments$Judgment" "NON_RELEVANT" "Lcom/example/termspan/termspan/eval/TopicJudgments$Judgment;" (.ref aN)) (S_aR : Sta Z Z.heap "com/example/termspan/termspan/eval/TopicJudgments$Judgment" "RELEVANT" "Lcom/example/termspan/termspan/eval/TopicJudgments$Judgment;" (.ref aR)) (nUN : ¬ aU = aN) (nUR : ¬ aU = aR) (nNR : ¬ aN = aR) :
    ConW FrameEnd l Z [] (⟨"com/example/termspan/termspan/eval/JudgmentOfPinLaw", "rank", "(Lcom/example/termspan/termspan/eval/TopicJudgments$Judgment;)I"⟩ : MethodName) method_2_code 1 (some .int) ({ frames := 0, cells := 0, slots := 0, locals := 0 } : Room) #[(.ref aR)] h0 (Pure h0 (some (.int (2 : Int32)))) := by
  refine conOf (plainFor_of_name pn_com_example_termspan_termspan_eval_JudgmentOfPinLaw) ?_
  intro p e s m below meth c s₁ X0 hx hby hml hown hnm hret hlk hZ e0
  have N0 := Fr.nil n0
  refine Fin.came (castTop (t := _) (by first | (simp [entryFrame, mkF, argsToLocals, Value.category]; done) | rfl) (Steps.refl _) : Steps p.tables e below (s₁.setTop (entryFrame m #[(.ref aR)] 1)) (s₁.setTop (mkF m 0 #[.val (.ref aR)] []))) ?_
  show Fin _ p e below s _ _ _ s₁ (mkF m 0 #[.val (.ref aR)] [])
  refine Fin.go (fun _ k => XS.aloadN X0.here hx rfl (hb hby d4_0) rfl rfl k) ?_
  show Fin _ p e below s _ _ _ s₁ (mkF m 1 #[.val (.ref aR)] [(.ref aR)])
  obtain ⟨T1, X1, e1, st1⟩ := getS2 X0 hx hZ hown (host := "") (Or.inl (hw _ w_17)) Via.refl e0 (S_aU.ext O.2) (g := (mkF m 1 #[.val (.ref aR)] [(.ref aR)])) rfl (hb hby d4_1)
  refine Fin.go st1 ?_
  show Fin _ p e below s _ _ _ T1 (mkF m 4 #[.val (.ref aR)] [(.ref aU), (.ref aR)])
  refine Fin.go (fun _ k => XT.acmpYes X1.here hx rfl (pc0 := 4) (pc' := 9) rfl (hb hby d4_4) rfl rfl rfl (XT.aa_ne_t (fun q => (Ne.symm nUR) (Value.ref.inj q))) (by decide) (by decide) k) ?_
  show Fin _ p e below s _ _ _ T1 (mkF m 9 #[.val (.ref aR)] [])
  refine Fin.go (fun _ k => XS.aloadN X1.here hx rfl (hb hby d4_9) rfl rfl k) ?_
  show Fin _ p e below s _ _ _ T1 (mkF m 10 #[.val (.ref aR)] [(.ref aR)])
  obtain ⟨T2, X2, e2, st2⟩ := getS2 X1 hx hZ hown (host := "") (Or.inl (hw _ w_19)) Via.refl e1 (S_aN.ext O.2) (g := (mkF m 10 #[.val (.ref aR)] [(.ref aR)])) rfl (hb hby d4_10)
  refine Fin.go st2 ?_
  show Fin _ p e below s _ _ _ T2 (mkF m 13 #[.val (.ref aR)] [(.ref aN), (.ref aR)])
  refine Fin.go (fun _ k => XT.acmpYes X2.here hx rfl (pc0 := 13) (pc' := 18) rfl (hb hby d4_13) rfl rfl rfl (XT.aa_ne_t (fun q => (Ne.symm nNR) (Value.ref.inj q))) (by decide) (by decide) k) ?_
  show Fin _ p e below s _ _ _ T2 (mkF m 18 #[.val (.ref aR)] [])
  refine Fin.go (fun _ k => XS.aloadN X2.here hx rfl (hb hby d4_18) rfl rfl k) ?_
  show Fin _ p e below s _ _ _ T2 (mkF m 19 #[.val (.ref aR)] [(.ref aR)])
  obtain ⟨T3, X3, e3, st3⟩ := getS2 X2 hx hZ hown (host := "") (Or.inl (hw _ w_22)) Via.refl e2 (S_aR.ext O.2) (g := (mkF m 19 #[.val (.ref aR)] [(.ref aR)])) rfl (hb hby d4_19)
  refine Fin.go st3 ?_
  show Fin _ p e below s _ _ _ T3 (mkF m 22 #[.val (.ref aR)] [(.ref aR), (.ref aR)])
  refine Fin.go (fun _ k => XT.acmpNo X3.here hx rfl (hb hby d4_22) rfl rfl rfl (XT.aa_ne_f rfl) k) ?_
  show Fin _ p e below s _ _ _ T3 (mkF m 25 #[.val (.ref aR)] [])
  refine Fin.go (fun _ k => XS.iconst X3.here hx rfl (hb hby d4_25) k) ?_
  show Fin _ p e below s _ _ _ T3 (mkF m 26 #[.val (.ref aR)] [(.int (2 : Int32))])
  exact Fin.leaveN X3 e3 hlk (v := some (.int (2 : Int32))) (fun h => by rw [hret] at h; cases h) (by decide) (by decide) ⟨rfl, rfl, rfl⟩ (fun fs hr => retI X3 hx hret (hb hby d4_26) hr)
theorem rmRk (l : Launch) (Z : State) (a0 : Array Value) (hw : ∀ d ∈ tables_1, d.before a0 Z = true) (n0 : Nat) (h0 : Heap) (O : Old Z n0 h0) (x : Int32) (aU aN aR : Addr) (S_aU : Sta Z Z.heap "com/example/termspan/termspan/eval/TopicJudgments$Judgment" "UNJUDGED" "Lcom/example/termspan/termspan/eval/TopicJudgments$Judgment;" (.ref aU)) (S_aN : Sta Z Z.heap "com/example/termspan/termspan/eval/TopicJudgments$Judgment" "NON_RELEVANT" "Lcom/example/termspan/termspan/eval/TopicJudgments$Judgment;" (.ref aN)) (S_aR : Sta Z Z.heap "com/example/termspan/termspan/eval/TopicJudgments$Judgment" "RELEVANT" "Lcom/example/termspan/termspan/eval/TopicJudgments$Judgment;" (.ref aR)) (nUN : ¬ aU = aN) (nUR : ¬ aU = aR) (nNR : ¬ aN = aR) :
    Con FrameEnd l Z (⟨"com/example/termspan/termspan/eval/JudgmentOfPinLaw", "rank", "(Lcom/example/termspan/termspan/eval/TopicJudgments$Judgment;)I"⟩ : MethodName) method_2_code 1 (some .int) ({ frames := 0, cells := 0, slots := 0, locals := 0 } : Room) #[(.ref (ofA x aU aN aR))] h0 (Pure h0 (some (.int (rkI x)))) := by
  unfold ofA rkI
  split
  · exact rmRkaU l Z a0 hw n0 h0 O aU aN aR S_aU S_aN S_aR nUN nUR nNR
  · split
    · exact rmRkaR l Z a0 hw n0 h0 O aU aN aR S_aU S_aN S_aR nUN nUR nNR
    · exact rmRkaN l Z a0 hw n0 h0 O aU aN aR S_aU S_aN S_aR nUN nUR nNR
theorem rk0 (x : Int32) : ¬ rkI x < 0 := by unfold rkI; split <;> (try split) <;> decide
theorem rkmono {x y : Int32} (h : ¬ y < x) : ¬ rkI y < rkI x := by
  unfold rkI
  rw [Int32.lt_iff_toInt_lt] at h
  have z : (0 : Int32).toInt = 0 := rfl
  by_cases a : x < 0 <;> by_cases b : y < 0 <;> by_cases c : 0 < x <;> by_cases d : 0 < y <;> simp only [a, b, c, d, if_true, if_false] <;> first | decide | (exfalso; simp only [Int32.lt_iff_toInt_lt, z] at a b c d; omega)
theorem lohi (x y : Int32) : ¬ (if x < y then y else x) < (if y < x then y else x) := by
  by_cases a : x < y
  · have b : ¬ y < x := by rw [Int32.lt_iff_toInt_lt] at *; omega
    rw [if_pos a, if_neg b]; exact b
  · rw [if_neg a]
    by_cases b : y < x
    · rw [if_pos b]; exact a
    · rw [if_neg b]; exact Int32.lt_irrefl
set_option maxRecDepth 65536 in
set_option maxHeartbeats 40000000 in
theorem law (l : Launch) (Z : State) (a0 : Array Value) (hw : ∀ d ∈ tables_1, d.before a0 Z = true) (n0 : Nat) (h0 : Heap) (O : Old Z n0 h0) (a b : Int32) (aU aN aR : Addr) (S_aU : Sta Z Z.heap "com/example/termspan/termspan/eval/TopicJudgments$Judgment" "UNJUDGED" "Lcom/example/termspan/termspan/eval/TopicJudgments$Judgment;" (.ref aU)) (S_aN : Sta Z Z.heap "com/example/termspan/termspan/eval/TopicJudgments$Judgment" "NON_RELEVANT" "Lcom/example/termspan/termspan/eval/TopicJudgments$Judgment;" (.ref aN)) (S_aR : Sta Z Z.heap "com/example/termspan/termspan/eval/TopicJudgments$Judgment" "RELEVANT" "Lcom/example/termspan/termspan/eval/TopicJudgments$Judgment;" (.ref aR)) (nUN : ¬ aU = aN) (nUR : ¬ aU = aR) (nNR : ¬ aN = aR) :
    ConW FrameEnd l Z tables_1 x code maxLocals ret room_1 #[(.int a), (.int b)] h0 (fun v h L => v = some (.int 1) ∧ Fr n0 L) := by
  refine conOf (plainFor_of_name pn_com_example_termspan_termspan_eval_JudgmentOfPinLaw) ?_
  intro p e s m below meth c s₁ X0 hx hby hml hown hnm hret hlk hZ e0
  have N0 := Fr.nil n0
  refine Fin.came (castTop (t := _) (by first | (simp [entryFrame, mkF, argsToLocals, Value.category, maxLocals]; done) | rfl) (Steps.refl _) : Steps p.tables e below (s₁.setTop (entryFrame m #[(.int a), (.int b)] maxLocals)) (s₁.setTop (mkF m 0 #[.val (.int a), .val (.int b), .unset, .unset, .unset, .unset] []))) ?_
  show Fin _ p e below s _ _ _ s₁ (mkF m 0 #[.val (.int a), .val (.int b), .unset, .unset, .unset, .unset] [])
  refine Fin.go (fun _ k => XS.iloadN X0.here hx rfl (hb hby at_0) rfl k) ?_
  show Fin _ p e below s _ _ _ s₁ (mkF m 1 #[.val (.int a), .val (.int b), .unset, .unset, .unset, .unset] [(.int a)])
  refine Fin.go (fun _ k => XS.iloadN X0.here hx rfl (hb hby at_1) rfl k) ?_
  show Fin _ p e below s _ _ _ s₁ (mkF m 2 #[.val (.int a), .val (.int b), .unset, .unset, .unset, .unset] [(.int b), (.int a)])
  obtain ⟨v1, T1, L1, X1, q1, st1⟩ := callSt X0 hx hZ (y := (⟨"java/lang/Math", "min", "(II)I"⟩ : MethodName)) hown (hw _ w_0) (hw _ w_1) (hw _ w_2) (hw _ w_3) (by decide) (W := 0) (rmMin l Z a0 hw n0 h0 O a b) e0 (by decide) (by decide) (by decide) (by decide) (g := (mkF m 2 #[.val (.int a), .val (.int b), .unset, .unset, .unset, .unset] [(.int b), (.int a)])) rfl (by rw [hml]; rfl) (argsL := [(.int a), (.int b)]) (rest := []) (lenOf pd_oIIcI rfl) rfl (by show 2 * 0 + _ ≤ _; exact Nat.le_of_eq rfl) (hb hby at_2)
  obtain ⟨rfl, e1, rfl⟩ := q1
  have N1 := Fr.app N0 (Fr.nil n0)
  refine Fin.go st1 ?_
  show Fin _ p e below s _ _ _ T1 (mkF m 5 #[.val (.int a), .val (.int b), .unset, .unset, .unset, .unset] [(.int (if b < a then b else a))])
  refine Fin.go (fun _ k => XS.istoreN X1.here hx rfl (hb hby at_5) rfl (l' := #[.val (.int a), .val (.int b), .val (.int (if b < a then b else a)), .unset, .unset, .unset]) rfl k) ?_
  show Fin _ p e below s _ _ _ T1 (mkF m 6 #[.val (.int a), .val (.int b), .val (.int (if b < a then b else a)), .unset, .unset, .unset] [])
  refine Fin.go (fun _ k => XS.iloadN X1.here hx rfl (hb hby at_6) rfl k) ?_
  show Fin _ p e below s _ _ _ T1 (mkF m 7 #[.val (.int a), .val (.int b), .val (.int (if b < a then b else a)), .unset, .unset, .unset] [(.int a)])
  refine Fin.go (fun _ k => XS.iloadN X1.here hx rfl (hb hby at_7) rfl k) ?_
  show Fin _ p e below s _ _ _ T1 (mkF m 8 #[.val (.int a), .val (.int b), .val (.int (if b < a then b else a)), .unset, .unset, .unset] [(.int b), (.int a)])
  obtain ⟨v2, T2, L2, X2, q2, st2⟩ := callSt X1 hx hZ (y := (⟨"java/lang/Math", "max", "(II)I"⟩ : MethodName)) hown (hw _ w_4) (hw _ w_5) (hw _ w_2) (hw _ w_6) (by decide) (W := 0) (rmMax l Z a0 hw n0 h0 O a b) e1 (by decide) (by decide) (by decide) (by decide) (g := (mkF m 8 #[.val (.int a), .val (.int b), .val (.int (if b < a then b else a)), .unset, .unset, .unset] [(.int b), (.int a)])) rfl (by rw [hml]; rfl) (argsL := [(.int a), (.int b)]) (rest := []) (lenOf pd_oIIcI rfl) rfl (by show 2 * 0 + _ ≤ _; exact Nat.le_of_eq rfl) (hb hby at_8)
  obtain ⟨rfl, e2, rfl⟩ := q2
  have N2 := Fr.app N1 (Fr.nil n0)
  refine Fin.go st2 ?_
  show Fin _ p e below s _ _ _ T2 (mkF m 11 #[.val (.int a), .val (.int b), .val (.int (if b < a then b else a)), .unset, .unset, .unset] [(.int (if a < b then b else a))])
  refine Fin.go (fun _ k => XS.istoreN X2.here hx rfl (hb hby at_11) rfl (l' := #[.val (.int a), .val (.int b), .val (.int (if b < a then b else a)), .val (.int (if a < b then b else a)), .unset, .unset]) rfl k) ?_
  show Fin _ p e below s _ _ _ T2 (mkF m 12 #[.val (.int a), .val (.int b), .val (.int (if b < a then b else a)), .val (.int (if a < b then b else a)), .unset, .unset] [])
  refine Fin.go (fun _ k => XS.iloadN X2.here hx rfl (hb hby at_12) rfl k) ?_
  show Fin _ p e below s _ _ _ T2 (mkF m 13 #[.val (.int a), .val (.int b), .val (.int (if b < a then b else a)), .val (.int (if a < b then b else a)), .unset, .unset] [(.int (if b < a then b else a))])
  obtain ⟨v3, T3, L3, X3, q3, st3⟩ := callSt X2 hx hZ (y := (⟨"com/example/termspan/termspan/eval/TopicJudgments$Judgment", "of", "(I)Lcom/example/termspan/termspan/eval/TopicJudgments$Judgment;"⟩ : MethodName)) hown (hw _ w_7) (hw _ w_8) (hw _ w_9) (hw _ w_10) (by decide) (W := 0) (rmOf l Z a0 hw n0 h0 O (if b < a then b else a) aU aN aR S_aU S_aN S_aR) e2 (by decide) (by decide) (by decide) (by decide) (g := (mkF m 13 #[.val (.int a), .val (.int b), .val (.int (if b < a then b else a)), .val (.int (if a < b then b else a)), .unset, .unset] [(.int (if b < a then b else a))])) rfl (by rw [hml]; rfl) (argsL := [(.int (if b < a then b else a))]) (rest := []) (lenOf pd_oIcLcom_example_termspan_termspan_eval_TopicJudgmentsxJudgment_ rfl) rfl (by show 2 * 0 + _ ≤ _; exact Nat.le_of_eq rfl) (hb hby at_13)
  obtain ⟨rfl, e3, rfl⟩ := q3
  have N3 := Fr.app N2 (Fr.nil n0)
  refine Fin.go st3 ?_
  show Fin _ p e below s _ _ _ T3 (mkF m 16 #[.val (.int a), .val (.int b), .val (.int (if b < a then b else a)), .val (.int (if a < b then b else a)), .unset, .unset] [(.ref (ofA (if b < a then b else a) aU aN aR))])
  obtain ⟨v4, T4, L4, X4, q4, st4⟩ := callSt X3 hx hZ (y := (⟨"com/example/termspan/termspan/eval/JudgmentOfPinLaw", "rank", "(Lcom/example/termspan/termspan/eval/TopicJudgments$Judgment;)I"⟩ : MethodName)) hown (hw _ w_13) (hw _ w_14) (hw _ w_15) (hw _ w_16) (by decide) (W := 0) (rmRk l Z a0 hw n0 h0 O (if b < a then b else a) aU aN aR S_aU S_aN S_aR nUN nUR nNR) e3 (by decide) (by decide) (by decide) (by decide) (g := (mkF m 16 #[.val (.int a), .val (.int b), .val (.int (if b < a then b else a)), .val (.int (if a < b then b else a)), .unset, .unset] [(.ref (ofA (if b < a then b else a) aU aN aR))])) rfl (by rw [hml]; rfl) (argsL := [(.ref (ofA (if b < a then b else a) aU aN aR))]) (rest := []) (lenOf pd_oLcom_example_termspan_termspan_eval_TopicJudgmentsxJudgment_cI rfl) rfl (by show 2 * 0 + _ ≤ _; exact Nat.le_of_eq rfl) (hb hby at_16)
  obtain ⟨rfl, e4, rfl⟩ := q4
  have N4 := Fr.app N3 (Fr.nil n0)
  refine Fin.go st4 ?_
  show Fin _ p e below s _ _ _ T4 (mkF m 19 #[.val (.int a), .val (.int b), .val (.int (if b < a then b else a)), .val (.int (if a < b then b else a)), .unset, .unset] [(.int (rkI (if b < a then b else a)))])
  refine Fin.go (fun _ k => XS.istore X4.here hx rfl (hb hby at_19) rfl (l' := #[.val (.int a), .val (.int b), .val (.int (if b < a then b else a)), .val (.int (if a < b then b else a)), .val (.int (rkI (if b < a then b else a))), .unset]) rfl k) ?_
  show Fin _ p e below s _ _ _ T4 (mkF m 21 #[.val (.int a), .val (.int b), .val (.int (if b < a then b else a)), .val (.int (if a < b then b else a)), .val (.int (rkI (if b < a then b else a))), .unset] [])
  refine Fin.go (fun _ k => XS.iloadN X4.here hx rfl (hb hby at_21) rfl k) ?_
  show Fin _ p e below s _ _ _ T4 (mkF m 22 #[.val (.int a), .val (.int b), .val (.int (if b < a then b else a)), .val (.int (if a < b then b else a)), .val (.int (rkI (if b < a then b else a))), .unset] [(.int (if a < b then b else a))])
  obtain ⟨v5, T5, L5, X5, q5, st5⟩ := callSt X4 hx hZ (y := (⟨"com/example/termspan/termspan/eval/TopicJudgments$Judgment", "of", "(I)Lcom/example/termspan/termspan/eval/TopicJudgments$Judgment;"⟩ : MethodName)) hown (hw _ w_7) (hw _ w_8) (hw _ w_9) (hw _ w_10) (by decide) (W := 0) (rmOf l Z a0 hw n0 h0 O (if a < b then b else a) aU aN aR S_aU S_aN S_aR) e4 (by decide) (by decide) (by decide) (by decide) (g := (mkF m 22 #[.val (.int a), .val (.int b), .val (.int (if b < a then b else a)), .val (.int (if a < b then b else a)), .val (.int (rkI (if b < a then b else a))), .unset] [(.int (if a < b then b else a))])) rfl (by rw [hml]; rfl) (argsL := [(.int (if a < b then b else a))]) (rest := []) (lenOf pd_oIcLcom_example_termspan_termspan_eval_TopicJudgmentsxJudgment_ rfl) rfl (by show 2 * 0 + _ ≤ _; exact Nat.le_of_eq rfl) (hb hby at_22)
  obtain ⟨rfl, e5, rfl⟩ := q5
  have N5 := Fr.app N4 (Fr.nil n0)
  refine Fin.go st5 ?_
  show Fin _ p e below s _ _ _ T5 (mkF m 25 #[.val (.int a), .val (.int b), .val (.int (if b < a then b else a)), .val (.int (if a < b then b else a)), .val (.int (rkI (if b < a then b else a))), .unset] [(.ref (ofA (if a < b then b else a) aU aN aR))])
  obtain ⟨v6, T6, L6, X6, q6, st6⟩ := callSt X5 hx hZ (y := (⟨"com/example/termspan/termspan/eval/JudgmentOfPinLaw", "rank", "(Lcom/example/termspan/termspan/eval/TopicJudgments$Judgment;)I"⟩ : MethodName)) hown (hw _ w_13) (hw _ w_14) (hw _ w_15) (hw _ w_16) (by decide) (W := 0) (rmRk l Z a0 hw n0 h0 O (if a < b then b else a) aU aN aR S_aU S_aN S_aR nUN nUR nNR) e5 (by decide) (by decide) (by decide) (by decide) (g := (mkF m 25 #[.val (.int a), .val (.int b), .val (.int (if b < a then b else a)), .val (.int (if a < b then b else a)), .val (.int (rkI (if b < a then b else a))), .unset] [(.ref (ofA (if a < b then b else a) aU aN aR))])) rfl (by rw [hml]; rfl) (argsL := [(.ref (ofA (if a < b then b else a) aU aN aR))]) (rest := []) (lenOf pd_oLcom_example_termspan_termspan_eval_TopicJudgmentsxJudgment_cI rfl) rfl (by show 2 * 0 + _ ≤ _; exact Nat.le_of_eq rfl) (hb hby at_25)
  obtain ⟨rfl, e6, rfl⟩ := q6
  have N6 := Fr.app N5 (Fr.nil n0)
  refine Fin.go st6 ?_
  show Fin _ p e below s _ _ _ T6 (mkF m 28 #[.val (.int a), .val (.int b), .val (.int (if b < a then b else a)), .val (.int (if a < b then b else a)), .val (.int (rkI (if b < a then b else a))), .unset] [(.int (rkI (if a < b then b else a)))])
  refine Fin.go (fun _ k => XS.istore X6.here hx rfl (hb hby at_28) rfl (l' := #[.val (.int a), .val (.int b), .val (.int (if b < a then b else a)), .val (.int (if a < b then b else a)), .val (.int (rkI (if b < a then b else a))), .val (.int (rkI (if a < b then b else a)))]) rfl k) ?_
  show Fin _ p e below s _ _ _ T6 (mkF m 30 #[.val (.int a), .val (.int b), .val (.int (if b < a then b else a)), .val (.int (if a < b then b else a)), .val (.int (rkI (if b < a then b else a))), .val (.int (rkI (if a < b then b else a)))] [])
  refine Fin.go (fun _ k => XS.iload X6.here hx rfl (hb hby at_30) rfl k) ?_
  show Fin _ p e below s _ _ _ T6 (mkF m 32 #[.val (.int a), .val (.int b), .val (.int (if b < a then b else a)), .val (.int (if a < b then b else a)), .val (.int (rkI (if b < a then b else a))), .val (.int (rkI (if a < b then b else a)))] [(.int (rkI (if b < a then b else a)))])
  refine Fin.go (fun _ k => XS.ifNo X6.here hx rfl (hb hby at_32) rfl (XT.i0_lt_f (rk0 _)) k) ?_
  show Fin _ p e below s _ _ _ T6 (mkF m 35 #[.val (.int a), .val (.int b), .val (.int (if b < a then b else a)), .val (.int (if a < b then b else a)), .val (.int (rkI (if b < a then b else a))), .val (.int (rkI (if a < b then b else a)))] [])
  refine Fin.go (fun _ k => XS.iload X6.here hx rfl (hb hby at_35) rfl k) ?_
  show Fin _ p e below s _ _ _ T6 (mkF m 37 #[.val (.int a), .val (.int b), .val (.int (if b < a then b else a)), .val (.int (if a < b then b else a)), .val (.int (rkI (if b < a then b else a))), .val (.int (rkI (if a < b then b else a)))] [(.int (rkI (if a < b then b else a)))])
  refine Fin.go (fun _ k => XS.ifYes X6.here hx rfl (pc0 := 37) (pc' := 42) rfl (hb hby at_37) rfl (XT.i0_ge_t (rk0 _)) (by decide) (by decide) k) ?_
  show Fin _ p e below s _ _ _ T6 (mkF m 42 #[.val (.int a), .val (.int b), .val (.int (if b < a then b else a)), .val (.int (if a < b then b else a)), .val (.int (rkI (if b < a then b else a))), .val (.int (rkI (if a < b then b else a)))] [])
  refine Fin.go (fun _ k => XS.iload X6.here hx rfl (hb hby at_42) rfl k) ?_
  show Fin _ p e below s _ _ _ T6 (mkF m 44 #[.val (.int a), .val (.int b), .val (.int (if b < a then b else a)), .val (.int (if a < b then b else a)), .val (.int (rkI (if b < a then b else a))), .val (.int (rkI (if a < b then b else a)))] [(.int (rkI (if b < a then b else a)))])
  refine Fin.go (fun _ k => XS.iload X6.here hx rfl (hb hby at_44) rfl k) ?_
  show Fin _ p e below s _ _ _ T6 (mkF m 46 #[.val (.int a), .val (.int b), .val (.int (if b < a then b else a)), .val (.int (if a < b then b else a)), .val (.int (rkI (if b < a then b else a))), .val (.int (rkI (if a < b then b else a)))] [(.int (rkI (if a < b then b else a))), (.int (rkI (if b < a then b else a)))])
  refine Fin.go (fun _ k => XS.icmpYes X6.here hx rfl (pc0 := 46) (pc' := 51) rfl (hb hby at_46) rfl (XT.ii_le_t (rkmono (lohi a b))) (by decide) (by decide) k) ?_
  show Fin _ p e below s _ _ _ T6 (mkF m 51 #[.val (.int a), .val (.int b), .val (.int (if b < a then b else a)), .val (.int (if a < b then b else a)), .val (.int (rkI (if b < a then b else a))), .val (.int (rkI (if a < b then b else a)))] [])
  refine Fin.go (fun _ k => XS.iconst X6.here hx rfl (hb hby at_51) k) ?_
  show Fin _ p e below s _ _ _ T6 (mkF m 52 #[.val (.int a), .val (.int b), .val (.int (if b < a then b else a)), .val (.int (if a < b then b else a)), .val (.int (rkI (if b < a then b else a))), .val (.int (rkI (if a < b then b else a)))] [(.int (-1 : Int32))])
  obtain ⟨v7, T7, L7, X7, q7, st7⟩ := callSt X6 hx hZ (y := (⟨"com/example/termspan/termspan/eval/TopicJudgments$Judgment", "of", "(I)Lcom/example/termspan/termspan/eval/TopicJudgments$Judgment;"⟩ : MethodName)) hown (hw _ w_7) (hw _ w_8) (hw _ w_9) (hw _ w_10) (by decide) (W := 0) (rmOf l Z a0 hw n0 h0 O (-1 : Int32) aU aN aR S_aU S_aN S_aR) e6 (by decide) (by decide) (by decide) (by decide) (g := (mkF m 52 #[.val (.int a), .val (.int b), .val (.int (if b < a then b else a)), .val (.int (if a < b then b else a)), .val (.int (rkI (if b < a then b else a))), .val (.int (rkI (if a < b then b else a)))] [(.int (-1 : Int32))])) rfl (by rw [hml]; rfl) (argsL := [(.int (-1 : Int32))]) (rest := []) (lenOf pd_oIcLcom_example_termspan_termspan_eval_TopicJudgmentsxJudgment_ rfl) rfl (by show 2 * 0 + _ ≤ _; exact Nat.le_of_eq rfl) (hb hby at_52)
  obtain ⟨rfl, e7, rfl⟩ := q7
  have N7 := Fr.app N6 (Fr.nil n0)
  refine Fin.go st7 ?_
  show Fin _ p e below s _ _ _ T7 (mkF m 55 #[.val (.int a), .val (.int b), .val (.int (if b < a then b else a)), .val (.int (if a < b then b else a)), .val (.int (rkI (if b < a then b else a))), .val (.int (rkI (if a < b then b else a)))] [(.ref aU)])
  obtain ⟨T8, X8, e8, st8⟩ := getS2 X7 hx hZ hown (host := "") (Or.inl (hw _ w_17)) Via.refl e7 (S_aU.ext O.2) (g := (mkF m 55 #[.val (.int a), .val (.int b), .val (.int (if b < a then b else a)), .val (.int (if a < b then b else a)), .val (.int (rkI (if b < a then b else a))), .val (.int (rkI (if a < b then b else a)))] [(.ref aU)])) rfl (hb hby at_55)
  refine Fin.go st8 ?_
  show Fin _ p e below s _ _ _ T8 (mkF m 58 #[.val (.int a), .val (.int b), .val (.int (if b < a then b else a)), .val (.int (if a < b then b else a)), .val (.int (rkI (if b < a then b else a))), .val (.int (rkI (if a < b then b else a)))] [(.ref aU), (.ref aU)])
  refine Fin.go (fun _ k => XT.acmpYes X8.here hx rfl (pc0 := 58) (pc' := 63) rfl (hb hby at_58) rfl rfl rfl (XT.aa_eq_t rfl) (by decide) (by decide) k) ?_
  show Fin _ p e below s _ _ _ T8 (mkF m 63 #[.val (.int a), .val (.int b), .val (.int (if b < a then b else a)), .val (.int (if a < b then b else a)), .val (.int (rkI (if b < a then b else a))), .val (.int (rkI (if a < b then b else a)))] [])
  refine Fin.go (fun _ k => XS.iconst X8.here hx rfl (hb hby at_63) k) ?_
  show Fin _ p e below s _ _ _ T8 (mkF m 64 #[.val (.int a), .val (.int b), .val (.int (if b < a then b else a)), .val (.int (if a < b then b else a)), .val (.int (rkI (if b < a then b else a))), .val (.int (rkI (if a < b then b else a)))] [(.int (0 : Int32))])
  obtain ⟨v9, T9, L9, X9, q9, st9⟩ := callSt X8 hx hZ (y := (⟨"com/example/termspan/termspan/eval/TopicJudgments$Judgment", "of", "(I)Lcom/example/termspan/termspan/eval/TopicJudgments$Judgment;"⟩ : MethodName)) hown (hw _ w_7) (hw _ w_8) (hw _ w_9) (hw _ w_10) (by decide) (W := 0) (rmOf l Z a0 hw n0 h0 O (0 : Int32) aU aN aR S_aU S_aN S_aR) e8 (by decide) (by decide) (by decide) (by decide) (g := (mkF m 64 #[.val (.int a), .val (.int b), .val (.int (if b < a then b else a)), .val (.int (if a < b then b else a)), .val (.int (rkI (if b < a then b else a))), .val (.int (rkI (if a < b then b else a)))] [(.int (0 : Int32))])) rfl (by rw [hml]; rfl) (argsL := [(.int (0 : Int32))]) (rest := []) (lenOf pd_oIcLcom_example_termspan_termspan_eval_TopicJudgmentsxJudgment_ rfl) rfl (by show 2 * 0 + _ ≤ _; exact Nat.le_of_eq rfl) (hb hby at_64)
  obtain ⟨rfl, e9, rfl⟩ := q9
  have N9 := Fr.app N7 (Fr.nil n0)
  refine Fin.go st9 ?_
  show Fin _ p e below s _ _ _ T9 (mkF m 67 #[.val (.int a), .val (.int b), .val (.int (if b < a then b else a)), .val (.int (if a < b then b else a)), .val (.int (rkI (if b < a then b else a))), .val (.int (rkI (if a < b then b else a)))] [(.ref aN)])
  obtain ⟨T10, X10, e10, st10⟩ := getS2 X9 hx hZ hown (host := "") (Or.inl (hw _ w_19)) Via.refl e9 (S_aN.ext O.2) (g := (mkF m 67 #[.val (.int a), .val (.int b), .val (.int (if b < a then b else a)), .val (.int (if a < b then b else a)), .val (.int (rkI (if b < a then b else a))), .val (.int (rkI (if a < b then b else a)))] [(.ref aN)])) rfl (hb hby at_67)
  refine Fin.go st10 ?_
  show Fin _ p e below s _ _ _ T10 (mkF m 70 #[.val (.int a), .val (.int b), .val (.int (if b < a then b else a)), .val (.int (if a < b then b else a)), .val (.int (rkI (if b < a then b else a))), .val (.int (rkI (if a < b then b else a)))] [(.ref aN), (.ref aN)])
  refine Fin.go (fun _ k => XT.acmpYes X10.here hx rfl (pc0 := 70) (pc' := 75) rfl (hb hby at_70) rfl rfl rfl (XT.aa_eq_t rfl) (by decide) (by decide) k) ?_
  show Fin _ p e below s _ _ _ T10 (mkF m 75 #[.val (.int a), .val (.int b), .val (.int (if b < a then b else a)), .val (.int (if a < b then b else a)), .val (.int (rkI (if b < a then b else a))), .val (.int (rkI (if a < b then b else a)))] [])
  refine Fin.go (fun _ k => XS.iconst X10.here hx rfl (hb hby at_75) k) ?_
  show Fin _ p e below s _ _ _ T10 (mkF m 76 #[.val (.int a), .val (.int b), .val (.int (if b < a then b else a)), .val (.int (if a < b then b else a)), .val (.int (rkI (if b < a then b else a))), .val (.int (rkI (if a < b then b else a)))] [(.int (1 : Int32))])
  obtain ⟨v11, T11, L11, X11, q11, st11⟩ := callSt X10 hx hZ (y := (⟨"com/example/termspan/termspan/eval/TopicJudgments$Judgment", "of", "(I)Lcom/example/termspan/termspan/eval/TopicJudgments$Judgment;"⟩ : MethodName)) hown (hw _ w_7) (hw _ w_8) (hw _ w_9) (hw _ w_10) (by decide) (W := 0) (rmOf l Z a0 hw n0 h0 O (1 : Int32) aU aN aR S_aU S_aN S_aR) e10 (by decide) (by decide) (by decide) (by decide) (g := (mkF m 76 #[.val (.int a), .val (.int b), .val (.int (if b < a then b else a)), .val (.int (if a < b then b else a)), .val (.int (rkI (if b < a then b else a))), .val (.int (rkI (if a < b then b else a)))] [(.int (1 : Int32))])) rfl (by rw [hml]; rfl) (argsL := [(.int (1 : Int32))]) (rest := []) (lenOf pd_oIcLcom_example_termspan_termspan_eval_TopicJudgmentsxJudgment_ rfl) rfl (by show 2 * 0 + _ ≤ _; exact Nat.le_of_eq rfl) (hb hby at_76)
  obtain ⟨rfl, e11, rfl⟩ := q11
  have N11 := Fr.app N9 (Fr.nil n0)
  refine Fin.go st11 ?_
  show Fin _ p e below s _ _ _ T11 (mkF m 79 #[.val (.int a), .val (.int b), .val (.int (if b < a then b else a)), .val (.int (if a < b then b else a)), .val (.int (rkI (if b < a then b else a))), .val (.int (rkI (if a < b then b else a)))] [(.ref aR)])
  obtain ⟨T12, X12, e12, st12⟩ := getS2 X11 hx hZ hown (host := "") (Or.inl (hw _ w_22)) Via.refl e11 (S_aR.ext O.2) (g := (mkF m 79 #[.val (.int a), .val (.int b), .val (.int (if b < a then b else a)), .val (.int (if a < b then b else a)), .val (.int (rkI (if b < a then b else a))), .val (.int (rkI (if a < b then b else a)))] [(.ref aR)])) rfl (hb hby at_79)
  refine Fin.go st12 ?_
  show Fin _ p e below s _ _ _ T12 (mkF m 82 #[.val (.int a), .val (.int b), .val (.int (if b < a then b else a)), .val (.int (if a < b then b else a)), .val (.int (rkI (if b < a then b else a))), .val (.int (rkI (if a < b then b else a)))] [(.ref aR), (.ref aR)])
  refine Fin.go (fun _ k => XT.acmpYes X12.here hx rfl (pc0 := 82) (pc' := 87) rfl (hb hby at_82) rfl rfl rfl (XT.aa_eq_t rfl) (by decide) (by decide) k) ?_
  show Fin _ p e below s _ _ _ T12 (mkF m 87 #[.val (.int a), .val (.int b), .val (.int (if b < a then b else a)), .val (.int (if a < b then b else a)), .val (.int (rkI (if b < a then b else a))), .val (.int (rkI (if a < b then b else a)))] [])
  refine Fin.go (fun _ k => XS.iconst X12.here hx rfl (hb hby at_87) k) ?_
  show Fin _ p e below s _ _ _ T12 (mkF m 88 #[.val (.int a), .val (.int b), .val (.int (if b < a then b else a)), .val (.int (if a < b then b else a)), .val (.int (rkI (if b < a then b else a))), .val (.int (rkI (if a < b then b else a)))] [(.int (1 : Int32))])
  exact Fin.leaveN X12 e12 hlk (v := some (.int (nar .boolean (1 : Int32)))) (fun h => by rw [hret] at h; cases h) (by decide) (by decide) ⟨rfl, N11⟩ (fun fs hr => retN X12 hx (t := .boolean) hret (by simp) (hb hby at_88) hr)
set_option maxRecDepth 65536 in
set_option maxHeartbeats 40000000 in
theorem comes_1 {Post : Tables → Env → Array Value → State → Outcome → State → Prop} (hpost : ∀ tb e args s v u, (limb_1_1.after args s (.returned v) u = true ∧ limb_1_2.after args s (.returned v) u = true ∧ True) → FrameEnd s (.returned v) u (Jvm.fieldLocs frame_1_writes args s ++ Jvm.arrayLocs frame_1_arrays args s ++ Jvm.staticLocs frame_1_statics s) 0 0 → Post tb e args s (.returned v) u) :
    ArmFor flags0 classFile x code maxLocals ret World_1 tables_1 room_1 Calls_1 rest_1 Pre_1 Post := by
  intro l hfl _ _ p e ha hc hk s m args below hf hA hF happ hP
  obtain ⟨hcalls, hrest, hpre⟩ := hP
  obtain ⟨-, -, -, hnamed, -, -, -, hat⟩ := (Spec.applies_iff hf).mp happ
  obtain ⟨hg, hn⟩ := and_e (Cond.before_iff.mp (show (Jvm.Cond.and given_1 narrow_1).before args s = true from hpre))
  obtain ⟨hcnt, hg⟩ := and_e hg
  obtain ⟨u0, u1, rfl⟩ : ∃ u0 u1 : Value, args = #[u0, u1] := by
    have hs : args.size = 2 := by simpa [Cond.value, given_1] using hcnt
    obtain ⟨L⟩ := args
    match L, hs with
    | [u0, u1], _ => exact ⟨u0, u1, rfl⟩
  have hw := fun d (hd : d ∈ tables_1) => atoms_spec (ws := Jvm.Cond.code x code maxLocals ret :: tables_1) hat d (List.mem_cons_of_mem _ hd)
  have hfit : Fit s := fun {y c} hc i hi => by
    obtain ⟨ha, rfl⟩ := Array.getElem?_eq_some_iff.mp hc
    have q := List.all_eq_true.mp ((Array.all_eq_true_iff_forall_mem.mp hF) _ (Array.getElem_mem ha)) i (List.mem_range.mpr hi)
    simpa [Array.getElem?_eq_getElem hi] using q
  obtain ⟨g0, hg⟩ := and_e hg
  obtain ⟨i0, ei0⟩ := is_v g0
  obtain rfl : u0 = (.int i0) := Option.some.inj ei0
  have g1 := hg
  obtain ⟨i1, ei1⟩ := is_v g1
  obtain rfl : u1 = (.int i1) := Option.some.inj ei1
  have x_aN := (and_e hn).1
  obtain ⟨aN, ev_aN⟩ := exa_v x_aN
  have A_aN := Exa.start ev_aN x_aN
  have S_aN := Sta.start ev_aN (Or.inr ⟨(hw _ w_9), (hw _ w_12)⟩)
  have x_aU := (and_e (and_e hn).2).1
  obtain ⟨aU, ev_aU⟩ := exa_v x_aU
  have A_aU := Exa.start ev_aU x_aU
  have S_aU := Sta.start ev_aU (Or.inr ⟨(hw _ w_9), (hw _ w_18)⟩)
  have x_aR := (and_e (and_e (and_e (and_e (and_e hn).2).2).2).2).1
  obtain ⟨aR, ev_aR⟩ := exa_v x_aR
  have A_aR := Exa.start ev_aR x_aR
  have S_aR := Sta.start ev_aR (Or.inr ⟨(hw _ w_9), (hw _ w_21)⟩)
  have F_aN_ordinal := fldOf ev_aN ((and_e (and_e (and_e hn).2).2).1)
  have F_aU_ordinal := fldOf ev_aU ((and_e (and_e (and_e (and_e hn).2).2).2).1)
  have F_aR_ordinal := fldOf ev_aR ((and_e (and_e (and_e (and_e (and_e hn).2).2).2).2).2)
  obtain ⟨n, o, h1, h2, h3, _, L, rfl, ⟨rfl, N⟩, hq⟩ := law l s _ hw s.heap.size s.heap (Old.start s) i0 i1 aU aN aR S_aU S_aN S_aR (F_aU_ordinal.ne F_aN_ordinal (by decide)) (F_aU_ordinal.ne F_aR_ordinal (by decide)) (F_aN_ordinal.ne F_aR_ordinal (by decide)) p e ha hc hk s m _ below hf ((Spec.applies_iff_loose hf).mp happ).1 ⟨rfl, State.Warmed39.refl s, rfl⟩ trivial
  refine ⟨n, _, h1, h2, h3, hpost _ _ _ _ _ _ ⟨Cond.after_iff.mpr rfl, Cond.after_iff.mpr (eq_i res_at (Term.int_eval (1)) rfl), trivial⟩ ⟨hq.1, hq.2.1, (hq.2.2.sift fun y hy => Or.inr (N y hy)).mono (by decide) (by decide)⟩⟩
theorem main_1_1 : Claimed_1_1 := comes_1 fun _ _ _ _ _ _ h hF => ⟨h.1, hF⟩
theorem main_1_2 : Claimed_1_2 := comes_1 fun _ _ _ _ _ _ h hF => ⟨h.2.1, hF⟩
end Jvm.Pilot.@@N@@
namespace Jvm.Pilot.@@N@@
open Jvm Jvm.ClassFile Sem Op Lib Jvm.Free Jvm.Stand Jvm.Pilot.@@N@@.Jvm.D
/-! MADE BY PROGRAM (witnessworld.py) out of the Statement's table words and the real class files: 13 classes; the members and pool entries that the words name. The judged class is class 1, her method 2. -/
namespace start1
open Jvm.ClassFile
def u (s : String) : CpInfo := .utf8 (stringToUtf16 s)
/-- a pool by its gaps: so many unusable entries, then the entry; so many at the end -/
def gap : Nat → List CpInfo → List CpInfo
  | 0, r => r
  | n + 1, r => .unusable :: gap n r
def poolList (es : List (Nat × CpInfo)) (last : Nat) : List CpInfo := es.foldr (fun e r => gap e.1 (e.2 :: r)) (gap last [])
def pool (es : List (Nat × CpInfo)) (last : Nat) : Array CpInfo := ⟨poolList es last⟩
def fileOf (pool : Array CpInfo) (this : Nat) (attrs : Array Attribute := #[]) (ms : Array MethodInfo := #[]) (fl : Nat := 33) (sup : Nat := 0) (ifs : Array Nat := #[]) (fds : Array FieldInfo := #[]) : ClassFile where
  minorVersion := 0
  majorVersion := 65
  constantPool := pool
  accessFlags := fl
  thisClass := this
  superClass := sup
  interfaces := ifs
  fields := fds
  methods := ms
  attributes := attrs
def plain (name : String) (sup : Option ClassId) : Class where
  name := name
  kind := .ordinary
  loader := none
  accessFlags := 33
  super := sup
  interfaces := #[]
  cf := none
  fields := #[]
  methods := #[]
  instanceTypes := #[]
  staticTypes := #[]
  resolved := #[]
  callSites := []
  init := .initialized
  statics := none
  mirror := none

def pool0 : Array CpInfo := pool [(5, u "<init>"), (0, u "()V"), (1, .class_ 10), (1, u "java/lang/Object")] 113

def k0m0 : Method := { name := "<init>", desc := "()V", sig := { parameters := [], returnType := none }, accessFlags := 1, code := none }
/-- java/lang/Object -/
def k0 : Class := { plain "java/lang/Object" none with
  accessFlags := 33
  interfaces := #[]
  cf := some (fileOf pool0 8 #[] #[{ accessFlags := 1, nameIndex := 5, descriptorIndex := 6, attributes := #[] }] 33 0 #[] #[])
  fields := #[]
  methods := #[k0m0]
  instanceTypes := #[]
  staticTypes := #[]
  resolved := Array.replicate 124 none
  statics := none }

def pool1 : Array CpInfo := pool [(2, .class_ 4), (1, u "java/lang/Object"), (0, u "<init>"), (0, u "()V"), (0, .fieldref 8 9), (0, .class_ 10), (0, .nameAndType 11 12), (0, u "com/example/termspan/termspan/eval/TopicJudgments$Judgment"), (0, u "UNJUDGED"), (0, u "Lcom/example/termspan/termspan/eval/TopicJudgments$Judgment;"), (0, .fieldref 8 14), (0, .nameAndType 15 12), (0, u "NON_RELEVANT"), (0, .fieldref 8 17), (0, .nameAndType 18 12), (0, u "RELEVANT"), (0, .methodref 20 21), (0, .class_ 22), (0, .nameAndType 23 24), (0, u "java/lang/Math"), (0, u "min"), (0, u "(II)I"), (0, .methodref 20 26), (0, .nameAndType 27 24), (0, u "max"), (0, .methodref 8 29), (0, .nameAndType 30 31), (0, u "of"), (0, u "(I)Lcom/example/termspan/termspan/eval/TopicJudgments$Judgment;"), (0, .methodref 33 34), (0, .class_ 35), (0, .nameAndType 36 37), (0, u "com/example/termspan/termspan/eval/JudgmentOfPinLaw"), (0, u "rank"), (0, u "(Lcom/example/termspan/termspan/eval/TopicJudgments$Judgment;)I"), (3, u "law"), (0, u "(II)Z")] 6

def k1m0 : Method := { name := "<init>", desc := "()V", sig := { parameters := [], returnType := none }, accessFlags := 1, code := none }
def k1c1 : Code := { maxStack := 2, maxLocals := 1, code := method_2_code, exceptionTable := #[], attributes := #[] }
def k1m1 : Method := { name := "rank", desc := "(Lcom/example/termspan/termspan/eval/TopicJudgments$Judgment;)I", sig := { parameters := [(.object "com/example/termspan/termspan/eval/TopicJudgments$Judgment")], returnType := some .int }, accessFlags := 10, code := some k1c1 }
def k1c2 : Code := { maxStack := 2, maxLocals := 6, code := code, exceptionTable := #[], attributes := #[] }
def k1m2 : Method := { name := "law", desc := "(II)Z", sig := { parameters := [.int, .int], returnType := some .boolean }, accessFlags := 9, code := some k1c2 }
/-- com/example/termspan/termspan/eval/JudgmentOfPinLaw -/
def k1 : Class := { plain "com/example/termspan/termspan/eval/JudgmentOfPinLaw" (some 0) with
  accessFlags := 49
  interfaces := #[]
  cf := some (fileOf pool1 33 #[] #[{ accessFlags := 1, nameIndex := 5, descriptorIndex := 6, attributes := #[] }, { accessFlags := 10, nameIndex := 36, descriptorIndex := 37, attributes := #[] }, { accessFlags := 9, nameIndex := 41, descriptorIndex := 42, attributes := #[] }] 49 2 #[] #[])
  fields := #[]
  methods := #[k1m0, k1m1, k1m2]
  instanceTypes := #[]
  staticTypes := #[]
  resolved := Array.replicate 49 none
  statics := none }

def pool2 : Array CpInfo := pool [(1, .class_ 2), (0, u "java/lang/Math"), (1, .class_ 6), (1, u "java/lang/Object"), (0, u "<init>"), (0, u "()V"), (89, .class_ 100), (1, u "java/lang/Math$RandomNumberGeneratorHolder"), (71, u "negativeZeroFloatBits"), (0, u "J"), (2, u "negativeZeroDoubleBits"), (21, u "max"), (2, u "min"), (43, u "$assertionsDisabled"), (0, u "Z"), (88, u "(II)I"), (2, u "twoToTheDoubleScaleDown"), (0, u "D"), (4, u "twoToTheDoubleScaleUp"), (9, u "E"), (3, u "PI"), (2, u "TAU"), (2, u "DEGREES_TO_RADIANS"), (0, u "RADIANS_TO_DEGREES")] 94

def k2m0 : Method := { name := "<init>", desc := "()V", sig := { parameters := [], returnType := none }, accessFlags := 2, code := none }
def k2c1 : Code := { maxStack := 2, maxLocals := 2, code := jdk_29_method_65_code, exceptionTable := #[], attributes := #[] }
def k2m1 : Method := { name := "max", desc := "(II)I", sig := { parameters := [.int, .int], returnType := some .int }, accessFlags := 9, code := some k2c1 }
def k2c2 : Code := { maxStack := 2, maxLocals := 2, code := jdk_29_method_69_code, exceptionTable := #[], attributes := #[] }
def k2m2 : Method := { name := "min", desc := "(II)I", sig := { parameters := [.int, .int], returnType := some .int }, accessFlags := 9, code := some k2c2 }
/-- java/lang/Math -/
def k2 : Class := { plain "java/lang/Math" (some 0) with
  accessFlags := 49
  interfaces := #[]
  cf := some (fileOf pool2 1 #[.nestMembers #[98]] #[{ accessFlags := 2, nameIndex := 7, descriptorIndex := 8, attributes := #[] }, { accessFlags := 9, nameIndex := 198, descriptorIndex := 335, attributes := #[] }, { accessFlags := 9, nameIndex := 201, descriptorIndex := 335, attributes := #[] }] 49 4 #[] #[{ accessFlags := 25, nameIndex := 354, descriptorIndex := 339, attributes := #[] }, { accessFlags := 25, nameIndex := 358, descriptorIndex := 339, attributes := #[] }, { accessFlags := 25, nameIndex := 361, descriptorIndex := 339, attributes := #[] }, { accessFlags := 26, nameIndex := 364, descriptorIndex := 339, attributes := #[] }, { accessFlags := 26, nameIndex := 365, descriptorIndex := 339, attributes := #[] }, { accessFlags := 26, nameIndex := 172, descriptorIndex := 173, attributes := #[] }, { accessFlags := 26, nameIndex := 176, descriptorIndex := 173, attributes := #[] }, { accessFlags := 8, nameIndex := 344, descriptorIndex := 339, attributes := #[] }, { accessFlags := 8, nameIndex := 338, descriptorIndex := 339, attributes := #[] }, { accessFlags := 4120, nameIndex := 245, descriptorIndex := 246, attributes := #[] }])
  fields := #[{ name := "E", type := .double, accessFlags := 25, slot := 0, constantValue := 0 }, { name := "PI", type := .double, accessFlags := 25, slot := 1, constantValue := 0 }, { name := "TAU", type := .double, accessFlags := 25, slot := 2, constantValue := 0 }, { name := "DEGREES_TO_RADIANS", type := .double, accessFlags := 26, slot := 3, constantValue := 0 }, { name := "RADIANS_TO_DEGREES", type := .double, accessFlags := 26, slot := 4, constantValue := 0 }, { name := "negativeZeroFloatBits", type := .long, accessFlags := 26, slot := 5, constantValue := 0 }, { name := "negativeZeroDoubleBits", type := .long, accessFlags := 26, slot := 6, constantValue := 0 }, { name := "twoToTheDoubleScaleUp", type := .double, accessFlags := 8, slot := 7, constantValue := 0 }, { name := "twoToTheDoubleScaleDown", type := .double, accessFlags := 8, slot := 8, constantValue := 0 }, { name := "$assertionsDisabled", type := .boolean, accessFlags := 4120, slot := 9, constantValue := 0 }]
  methods := #[k2m0, k2m1, k2m2]
  instanceTypes := #[]
  staticTypes := #[.double, .double, .double, .double, .double, .long, .long, .double, .double, .boolean]
  resolved := Array.replicate 460 none
  statics := none }

def pool3 : Array CpInfo := pool [(1, .class_ 2), (0, u "java/lang/constant/Constable"), (0, .class_ 4), (0, u "java/lang/Object")] 6

/-- java/lang/constant/Constable -/
def k3 : Class := { plain "java/lang/constant/Constable" (some 0) with
  accessFlags := 1537
  interfaces := #[]
  cf := some (fileOf pool3 1 #[] #[] 1537 3 #[] #[])
  fields := #[]
  methods := #[]
  instanceTypes := #[]
  staticTypes := #[]
  resolved := Array.replicate 11 none
  statics := none }

def pool4 : Array CpInfo := pool [(1, .class_ 2), (0, u "java/lang/Comparable"), (0, .class_ 4), (0, u "java/lang/Object")] 7

/-- java/lang/Comparable -/
def k4 : Class := { plain "java/lang/Comparable" (some 0) with
  accessFlags := 1537
  interfaces := #[]
  cf := some (fileOf pool4 1 #[] #[] 1537 3 #[] #[])
  fields := #[]
  methods := #[]
  instanceTypes := #[]
  staticTypes := #[]
  resolved := Array.replicate 12 none
  statics := none }

def pool5 : Array CpInfo := pool [(1, .class_ 2), (0, u "java/io/Serializable"), (0, .class_ 4), (0, u "java/lang/Object")] 2

/-- java/io/Serializable -/
def k5 : Class := { plain "java/io/Serializable" (some 0) with
  accessFlags := 1537
  interfaces := #[]
  cf := some (fileOf pool5 1 #[] #[] 1537 3 #[] #[])
  fields := #[]
  methods := #[]
  instanceTypes := #[]
  staticTypes := #[]
  resolved := Array.replicate 7 none
  statics := none }

def pool6 : Array CpInfo := pool [(2, .class_ 4), (1, u "java/lang/Enum"), (0, u "name"), (0, u "Ljava/lang/String;"), (2, u "ordinal"), (0, u "I"), (1, .class_ 14), (1, u "java/lang/Object"), (4, u "hash"), (86, .class_ 108), (1, u "java/lang/Enum$EnumDesc"), (2, .class_ 112), (0, u "java/lang/constant/Constable"), (0, .class_ 114), (0, u "java/lang/Comparable"), (0, .class_ 116), (0, u "java/io/Serializable")] 87

/-- java/lang/Enum -/
def k6 : Class := { plain "java/lang/Enum" (some 0) with
  accessFlags := 1057
  interfaces := #[3, 4, 5]
  cf := some (fileOf pool6 2 #[.nestMembers #[106]] #[] 1057 12 #[111, 113, 115] #[{ accessFlags := 18, nameIndex := 5, descriptorIndex := 6, attributes := #[] }, { accessFlags := 18, nameIndex := 9, descriptorIndex := 10, attributes := #[] }, { accessFlags := 2, nameIndex := 19, descriptorIndex := 10, attributes := #[] }])
  fields := #[{ name := "name", type := (.object "java/lang/String"), accessFlags := 18, slot := 0, constantValue := 0 }, { name := "ordinal", type := .int, accessFlags := 18, slot := 1, constantValue := 0 }, { name := "hash", type := .int, accessFlags := 2, slot := 2, constantValue := 0 }]
  methods := #[]
  instanceTypes := #[(.object "java/lang/String"), .int, .int]
  staticTypes := #[]
  resolved := Array.replicate 204 none
  statics := none }

def pool7 : Array CpInfo := pool [(1, .class_ 2), (0, u "com/example/termspan/termspan/eval/TopicJudgments$Judgment"), (0, .fieldref 1 4), (0, .nameAndType 5 6), (0, u "RELEVANT"), (0, u "Lcom/example/termspan/termspan/eval/TopicJudgments$Judgment;"), (0, .fieldref 1 8), (0, .nameAndType 9 6), (0, u "NON_RELEVANT"), (0, .fieldref 1 11), (0, .nameAndType 12 6), (0, u "UNJUDGED"), (2, u "$VALUES"), (0, u "[Lcom/example/termspan/termspan/eval/TopicJudgments$Judgment;"), (6, .class_ 25), (1, u "java/lang/Enum"), (21, u "of"), (0, u "(I)Lcom/example/termspan/termspan/eval/TopicJudgments$Judgment;"), (6, .class_ 56), (0, u "com/example/termspan/termspan/eval/TopicJudgments")] 2

def k7c0 : Code := { maxStack := 1, maxLocals := 1, code := prog_17_method_4_code, exceptionTable := #[], attributes := #[] }
def k7m0 : Method := { name := "of", desc := "(I)Lcom/example/termspan/termspan/eval/TopicJudgments$Judgment;", sig := { parameters := [.int], returnType := some (.object "com/example/termspan/termspan/eval/TopicJudgments$Judgment") }, accessFlags := 8, code := some k7c0 }
/-- com/example/termspan/termspan/eval/TopicJudgments$Judgment -/
def k7 : Class := { plain "com/example/termspan/termspan/eval/TopicJudgments$Judgment" (some 6) with
  accessFlags := 16432
  interfaces := #[]
  cf := some (fileOf pool7 1 #[.nestHost 55] #[{ accessFlags := 8, nameIndex := 47, descriptorIndex := 48, attributes := #[] }] 16432 23 #[] #[{ accessFlags := 16409, nameIndex := 5, descriptorIndex := 6, attributes := #[] }, { accessFlags := 16409, nameIndex := 9, descriptorIndex := 6, attributes := #[] }, { accessFlags := 16409, nameIndex := 12, descriptorIndex := 6, attributes := #[] }, { accessFlags := 4122, nameIndex := 15, descriptorIndex := 16, attributes := #[] }])
  fields := #[{ name := "RELEVANT", type := (.object "com/example/termspan/termspan/eval/TopicJudgments$Judgment"), accessFlags := 16409, slot := 0, constantValue := 0 }, { name := "NON_RELEVANT", type := (.object "com/example/termspan/termspan/eval/TopicJudgments$Judgment"), accessFlags := 16409, slot := 1, constantValue := 0 }, { name := "UNJUDGED", type := (.object "com/example/termspan/termspan/eval/TopicJudgments$Judgment"), accessFlags := 16409, slot := 2, constantValue := 0 }, { name := "$VALUES", type := (.array (.object "com/example/termspan/termspan/eval/TopicJudgments$Judgment")), accessFlags := 4122, slot := 3, constantValue := 0 }]
  methods := #[k7m0]
  instanceTypes := #[(.object "java/lang/String"), .int, .int]
  staticTypes := #[(.object "com/example/termspan/termspan/eval/TopicJudgments$Judgment"), (.object "com/example/termspan/termspan/eval/TopicJudgments$Judgment"), (.object "com/example/termspan/termspan/eval/TopicJudgments$Judgment"), (.array (.object "com/example/termspan/termspan/eval/TopicJudgments$Judgment"))]
  resolved := Array.replicate 59 none
  statics := some 0 }

def pool8 : Array CpInfo := pool [(1, u "java/lang/Cloneable"), (0, .class_ 1), (0, u "java/lang/Object"), (0, .class_ 3)] 3

/-- java/lang/Cloneable -/
def k8 : Class := { plain "java/lang/Cloneable" (some 0) with
  accessFlags := 1537
  interfaces := #[]
  cf := some (fileOf pool8 2 #[] #[] 1537 4 #[] #[])
  fields := #[]
  methods := #[]
  instanceTypes := #[]
  staticTypes := #[]
  resolved := Array.replicate 8 none
  statics := none }

/-- the primitive byte -/
def k9 : Class := { plain "byte" none with kind := .primitive 'B', accessFlags := 0x411 }
/-- [B -/
def k10 : Class := { plain "[B" (some 0) with kind := .array 9 .byte, interfaces := #[8, 5], accessFlags := 1041 }

/-- the primitive int -/
def k11 : Class := { plain "int" none with kind := .primitive 'I', accessFlags := 0x411 }
/-- [I -/
def k12 : Class := { plain "[I" (some 0) with kind := .array 11 .int, interfaces := #[8, 5], accessFlags := 1041 }

def heap : Heap := #[{ cls := 7, slots := #[.ref 3, .ref 2, .ref 1, .null], vm := .statics 7 },
  { cls := 7, slots := #[.null, .int 2, .int 0], vm := .none },
  { cls := 7, slots := #[.null, .int 1, .int 0], vm := .none },
  { cls := 7, slots := #[.null, .int 0, .int 0], vm := .none }]
def classes : Array Class := #[k0, k1, k2, k3, k4, k5, k6, k7, k8, k9, k10, k11, k12]
def interned : List (Array UInt16 × Addr) := []
def slotsUsed : Nat := 13
def theMethod : MethodId := ⟨1, 2⟩
def args0 : Array Value := #[.int 5, .int (-3)]
def aboutOver (below : List Frame) : State where
  vm := { classes := classes, interned := interned.toArray }
  heap := heap
  slotsUsed := slotsUsed
  threads := #[{ frames := .invoking theMethod args0 :: below }]
def below0 : List Frame := [.native { method := ⟨0, 0⟩, args := #[] }]
def about1 : State := aboutOver below0
def p0 : Program := .bare "" "" ""
def e0 : Env := launch0.env 0 0 0
theorem w_frames : about1.frames = Frame.invoking theMethod args0 :: below0 := rfl
set_option maxRecDepth 65536 in
theorem w_args : argsFit about1.vm theMethod args0 = true := by decide +kernel
set_option maxRecDepth 65536 in
theorem w_heap : heapFits about1 = true := by decide +kernel
set_option maxRecDepth 65536 in
theorem w_runnable : about1.curStatus? = some .runnable := by decide +kernel
set_option maxRecDepth 65536 in
theorem w_alone : about1.alone = true := by decide +kernel
set_option maxRecDepth 65536 in
theorem w_named : about1.methodNamed? x = some theMethod := by decide +kernel
set_option maxRecDepth 65536 in
theorem w_hears : about1.hears theMethod below0 = true := by decide +kernel
set_option maxRecDepth 65536 in
theorem w_ripe : about1.ripe theMethod args0 below0 = true := by decide +kernel
theorem w_running : about1.status = .running := rfl
set_option maxRecDepth 65536 in
theorem w_room : about1.hasRoom e0.platform room_1 = true :=
  launch0.hasRoom_least _ room_1 (by decide +kernel) (by decide +kernel) (by decide +kernel) (by decide +kernel) (by decide +kernel) (by decide +kernel)
theorem allAtoms_all (ts : List Jvm.Cond) (a : Array Jvm.Value) (st : Jvm.State) : (allAtoms ts).before a st = ts.all (fun c => c.before a st) := by
  induction ts with
  | nil => rfl
  | cons c t ih =>
    show (Jvm.Cond.and c (allAtoms t)).before a st = _
    rw [Jvm.Cond.before_and, ih, List.all_cons]
def words1 : List Jvm.Cond := Jvm.Cond.code x code maxLocals ret :: tables_1
/-- a 'code' word, met by the world's own term for the bytes: nothing is compared byte by byte -/
theorem code_word {y : MethodName} {bytes : ByteArray} {mx : Nat} {rt : Option FieldType} {a : Array Value} {s : State} {m : MethodId} {meth : Method} {c : Code} (h1 : s.methodNamed? y = some m) (h2 : s.vm.method? m = some meth) (h3 : meth.code = some c) (h4 : c.code = bytes)
    (h5 : (c.maxLocals == mx && c.exceptionTable.isEmpty && decide (c.maxStack ≤ mostOperands) && decide (meth.sig.returnType = rt) && !meth.locks && decide (parseMethodDescriptor y.desc = some meth.sig)) = true) : (Jvm.Cond.code y bytes mx rt).before a s = true := by
  simp only [Bool.and_eq_true, beq_iff_eq, Bool.not_eq_true', decide_eq_true_eq] at h5
  obtain ⟨⟨⟨⟨⟨g1, g2⟩, g3⟩, g4⟩, g5⟩, g6⟩ := h5
  simp [Cond.before, Cond.holds, Cond.value, h1, h2, h3, h4, g1, g2, g3, g4, g5, g6]
def isCode : Jvm.Cond → Bool
  | .code _ _ _ _ => true
  | _ => false
theorem all_split {L : List Jvm.Cond} {P : Jvm.Cond → Bool} (h1 : L.all (fun c => isCode c || P c) = true) (h2 : ∀ c ∈ L.filter isCode, P c = true) : L.all P = true := by
  refine List.all_eq_true.mpr fun c hc => ?_
  have h := List.all_eq_true.mp h1 c hc
  rcases Bool.eq_false_or_eq_true (isCode c) with hi | hi
  · exact h2 c (List.mem_filter.mpr ⟨hc, hi⟩)
  · simpa [hi] using h
set_option maxRecDepth 65536 in
theorem w_c0 : (Jvm.Cond.code x code maxLocals ret).before args0 about1 = true := code_word (m := ⟨1, 2⟩) (meth := k1m2) (c := k1c2) (by decide +kernel) rfl rfl rfl (by decide +kernel)
set_option maxRecDepth 65536 in
theorem w_c1 : (Jvm.Cond.code ({ cls := "java/lang/Math", name := "min", desc := "(II)I" } : Jvm.MethodName) jdk_29_method_69_code (2 : Nat) (Option.some Jvm.ClassFile.FieldType.int)).before args0 about1 = true := code_word (m := ⟨2, 2⟩) (meth := k2m2) (c := k2c2) (by decide +kernel) rfl rfl rfl (by decide +kernel)
set_option maxRecDepth 65536 in
theorem w_c2 : (Jvm.Cond.code ({ cls := "java/lang/Math", name := "max", desc := "(II)I" } : Jvm.MethodName) jdk_29_method_65_code (2 : Nat) (Option.some Jvm.ClassFile.FieldType.int)).before args0 about1 = true := code_word (m := ⟨2, 1⟩) (meth := k2m1) (c := k2c1) (by decide +kernel) rfl rfl rfl (by decide +kernel)
set_option maxRecDepth 65536 in
theorem w_c3 : (Jvm.Cond.code ({ cls := "com/example/termspan/termspan/eval/TopicJudgments$Judgment", name := "of", desc := "(I)Lcom/example/termspan/termspan/eval/TopicJudgments$Judgment;" } : Jvm.MethodName) prog_17_method_4_code (1 : Nat) (Option.some (Jvm.ClassFile.FieldType.object "com/example/termspan/termspan/eval/TopicJudgments$Judgment"))).before args0 about1 = true := code_word (m := ⟨7, 0⟩) (meth := k7m0) (c := k7c0) (by decide +kernel) rfl rfl rfl (by decide +kernel)
set_option maxRecDepth 65536 in
theorem w_c4 : (Jvm.Cond.code ({ cls := "com/example/termspan/termspan/eval/JudgmentOfPinLaw", name := "rank", desc := "(Lcom/example/termspan/termspan/eval/TopicJudgments$Judgment;)I" } : Jvm.MethodName) method_2_code (1 : Nat) (Option.some Jvm.ClassFile.FieldType.int)).before args0 about1 = true := code_word (m := ⟨1, 1⟩) (meth := k1m1) (c := k1c1) (by decide +kernel) rfl rfl rfl (by decide +kernel)
def codes1 : List Jvm.Cond := [Jvm.Cond.code x code maxLocals ret, Jvm.Cond.code ({ cls := "java/lang/Math", name := "min", desc := "(II)I" } : Jvm.MethodName) jdk_29_method_69_code (2 : Nat) (Option.some Jvm.ClassFile.FieldType.int), Jvm.Cond.code ({ cls := "java/lang/Math", name := "max", desc := "(II)I" } : Jvm.MethodName) jdk_29_method_65_code (2 : Nat) (Option.some Jvm.ClassFile.FieldType.int), Jvm.Cond.code ({ cls := "com/example/termspan/termspan/eval/TopicJudgments$Judgment", name := "of", desc := "(I)Lcom/example/termspan/termspan/eval/TopicJudgments$Judgment;" } : Jvm.MethodName) prog_17_method_4_code (1 : Nat) (Option.some (Jvm.ClassFile.FieldType.object "com/example/termspan/termspan/eval/TopicJudgments$Judgment")), Jvm.Cond.code ({ cls := "com/example/termspan/termspan/eval/JudgmentOfPinLaw", name := "rank", desc := "(Lcom/example/termspan/termspan/eval/TopicJudgments$Judgment;)I" } : Jvm.MethodName) method_2_code (1 : Nat) (Option.some Jvm.ClassFile.FieldType.int)]
set_option maxRecDepth 65536 in
theorem codes_eq : words1.filter isCode = codes1 := rfl
theorem w_codes : ∀ c ∈ words1.filter isCode, c.before args0 about1 = true := by
  rw [codes_eq]
  intro c hc
  simp only [codes1, List.mem_cons, List.not_mem_nil, or_false] at hc
  rcases hc with rfl | rfl | rfl | rfl | rfl
  · exact w_c0
  · exact w_c1
  · exact w_c2
  · exact w_c3
  · exact w_c4
set_option maxRecDepth 65536 in
theorem w_t1 : (words1.take 24).all (fun c => isCode c || c.before args0 about1) = true := by decide +kernel
set_option maxRecDepth 65536 in
theorem w_t2 : (words1.drop 24).all (fun c => isCode c || c.before args0 about1) = true := by decide +kernel
theorem w_tables : (allAtoms (Jvm.Cond.code x code maxLocals ret :: tables_1)).before args0 about1 = true := by
  rw [allAtoms_all]
  show words1.all (fun c => c.before args0 about1) = true
  refine all_split ?_ w_codes
  rw [← List.take_append_drop 24 words1, List.all_append, w_t1, w_t2]
  rfl
set_option maxRecDepth 65536 in
theorem w_case : (Jvm.Cond.and given_1 narrow_1).before args0 about1 = true := by decide +kernel
theorem w_applies : (headSpec (Jvm.Cond.code x code maxLocals ret :: tables_1) room_1).applies x e0.platform about1 = true :=
  (Spec.applies_iff w_frames).mpr ⟨w_running, w_runnable, w_alone, w_named, w_hears, w_ripe, w_room, w_tables⟩
theorem atStart : AtStart classFile x code maxLocals ret World_1 tables_1 room_1 Calls_1 rest_1 Pre_1 launch0 p0 e0 about1 theMethod args0 below0 :=
  ⟨lists_1, trivial, launch0.admits_env _ _ _, launch0.least_env, fairChoices_fair.cas, fairChoices_fair.clock, w_frames, w_args, w_heap, w_applies, trivial, trivial, w_case⟩
end start1
theorem witness_1 : WitnessClaimed_1 := ⟨start1.p0, start1.e0, start1.about1, start1.theMethod, start1.args0, start1.below0, start1.atStart⟩
end Jvm.Pilot.@@N@@
