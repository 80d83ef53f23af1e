import JvmDerived
import JvmDerived.Pilot.@@N@@Statement
import JvmDerived.Pilot.@@N@@Code
set_option linter.unusedVariables false
set_option linter.unusedSimpArgs false
namespace Jvm.RoadKit
open Sem ClassFile Op Lib Jvm.Stand Jvm.Free Jvm.LawKit
section New
variable {p : Program} {l : Launch} {e : Env} {R : Room} {s : State} {m : MethodId} {args : Array Value} {below : List Frame} {meth : Method} {c : Code} {T : State} {locs : List Loc} {cells slots : Nat}
theorem retI (X : Stand p l e R s m args below meth c T locs cells slots) (hx : p.tables.exec = Jvm.exec) {pc : Nat} {Ls : Array Slot} {z : Int32} {rest : List Value} (hret : meth.sig.returnType = some .int) (hd : decode c.code pc = .ok (.ireturn, 1)) {fs : List Frame}
    (hl : ∀ (f : JFrame) (acts : List Action), f.method = m → f.locked = none → f.entered = [] → (doReturn e (T.setTop f) acts (some (.int z))).1 = T.setFrames fs) : Steps p.tables e below (T.setTop (mkF m pc Ls (.int z :: rest))) (T.setFrames fs) :=
  retOut X hx hret rfl (Or.inl ⟨rfl, Or.inl rfl, z, rfl⟩) hd hl
end New
end Jvm.RoadKit
namespace Jvm.Pilot.@@N@@
open Jvm Jvm.ClassFile Sem Op Lib Jvm.Free Jvm.Stand Jvm.LawKit Jvm.RoadKit Bundle Jvm.Pilot.@@N@@.Jvm.D
section OwnKit
variable {p : Program} {l : Launch} {e : Env} {R : Room} {s s' : State} {m : MethodId} {args : Array Value} {below : List Frame} {meth : Method} {c : Code} {T T' : State} {locs : List Loc} {cells slots : Nat} {g g' : JFrame} {Z : State} {a0 : Array Value} {h : Heap} {Q : Option Value → Heap → List Loc → Prop} {k n : Nat} {E : State → Outcome → State → List Loc → Nat → Nat → Prop}
/-- the run goes on from here to its end, and the end is as Q and the frame E say -/
def Fin (E : State → Outcome → State → List Loc → Nat → Nat → Prop) (p : Program) (e : Env) (below : List Frame) (s : State) (Q : Option Value → Heap → List Loc → Prop) (k n : Nat) (T : State) (g : JFrame) : Prop :=
  ∃ (s₂ : State) (o : Outcome), Steps p.tables e below (T.setTop g) s₂ ∧ s₂.status = .running ∧ Ended s₂ below o ∧ ∃ v L, o = .returned v ∧ Q v s₂.heap L ∧ E s o s₂ L k n
theorem Fin.go (st : ∀ t, Steps p.tables e below (T'.setTop g') t → Steps p.tables e below (T.setTop g) t) (w : Fin E p e below s Q k n T' g') : Fin E p e below s Q k n T g := by
  obtain ⟨s₂, o, h1, r⟩ := w
  exact ⟨s₂, o, st _ h1, r⟩
theorem Fin.came (st : Steps p.tables e below (T.setTop g) (T'.setTop g')) (w : Fin E p e below s Q k n T' g') : Fin E p e below s Q k n T g := by
  obtain ⟨s₂, o, h1, r⟩ := w
  exact ⟨s₂, o, st.trans h1, r⟩
theorem Fin.leaveN (X : Stand p l e R s m args below meth c T locs cells slots) (eT : T.heap = h) (hlk : meth.locks = false) {v : Option Value} (hv : meth.sig.returnType = none → v = none) (hk : cells ≤ k) (hn : slots ≤ n) (hq : Q v h locs)
    (st : ∀ fs, (∀ (f : JFrame) (acts : List Action), f.method = m → f.locked = none → f.entered = [] → (doReturn e (T.setTop f) acts v).1 = T.setFrames fs) → Steps p.tables e below (T.setTop g) (T.setFrames fs)) : Fin FrameEnd p e below s Q k n T g := by
  subst eT
  obtain ⟨fs, hr, hrun, hended, hW, hsame⟩ := X.leave hv hlk
  exact ⟨_, _, st fs hr, hrun, hended, v, locs, rfl, hq, ⟨v, rfl⟩, hW, hsame.mono hk hn⟩
/-- a body's contract: called with these arguments at this heap, it comes back as Q says -/
abbrev ConW (E : State → Outcome → State → List Loc → Nat → Nat → Prop) (l : Launch) (Z : State) (ws : List Jvm.Cond) (y : MethodName) (bytes : ByteArray) (maxL : Nat) (ret : Option FieldType) (rm : Room) (as' : Array Value) (h : Heap) (Q : Option Value → Heap → List Loc → Prop) : Prop :=
  MetFree l y (head1 (Jvm.Cond.code y bytes maxL ret :: ws) rm) (fun a U => a = as' ∧ Z.Warmed39 U.vm ∧ U.heap = h) (fun _ _ _ _ _ => True) (fun _ U o U' => ∃ v L, o = .returned v ∧ Q v U'.heap L ∧ E U o U' L rm.cells rm.slots)
abbrev Con (E : State → Outcome → State → List Loc → Nat → Nat → Prop) (l : Launch) (Z : State) (y : MethodName) (bytes : ByteArray) (maxL : Nat) (ret : Option FieldType) (rm : Room) (as' : Array Value) (h : Heap) (Q : Option Value → Heap → List Loc → Prop) : Prop := ConW E l Z [] y bytes maxL ret rm as' h Q
theorem conOf {ws : List Jvm.Cond} {y : MethodName} {bytes : ByteArray} {maxL : Nat} {ret : Option FieldType} {rm : Room} {as' : Array Value} (hpn : plainFor y = true)
    (body : ∀ (p : Program) (e : Env) (s : State) (m : MethodId) (below : List Frame) (meth : Method) (c : Code) (s₁ : State), Stand p l e rm s m as' below meth c s₁ [] 0 0 → p.tables.exec = Jvm.exec → c.code = bytes → c.maxLocals = maxL → s.vm.findClass y.cls = some m.cls → meth.name = y.name →
      meth.sig.returnType = ret → meth.locks = false → Z.Warmed39 s.vm → s₁.heap = h → Fin E p e below s Q rm.cells rm.slots s₁ (entryFrame m as' maxL)) : ConW E l Z ws y bytes maxL ret rm as' h Q := by
  refine MetFree.of_bodySF hpn hisR ?_
  intro p e s m args below meth c s₁ Bd hml hP hK
  obtain ⟨rfl, hZ, hh⟩ := hP
  exact body p e s m below meth c s₁ (Stand.of_body Bd) Bd.exec Bd.bytes hml (findClass_of_methodNamed Bd.named) (name_of_methodNamed Bd.named Bd.method).1 Bd.returns (BodyLoose.notSynchronized Bd) hZ (by rw [← hh, Bd.state]; rfl)
/-- nothing moved; r is returned -/
abbrev Pure (h0 : Heap) (r : Option Value) : Option Value → Heap → List Loc → Prop := fun v h L => v = r ∧ h = h0 ∧ L = []
theorem nar_refv {v : Value} {t : FieldType} (h : v.isRef = true) (ht : t.isReference = true) : narrow t v = v := by
  rcases ref_cases h with rfl | ⟨a, rfl⟩ <;> cases t <;> first | rfl | (simp [FieldType.isReference] at ht)
theorem fits_refv {v : Value} {t : FieldType} (h : v.isRef = true) (ht : t.isReference = true) : fits t v = true := by
  rcases ref_cases h with rfl | ⟨a, rfl⟩ <;> cases t <;> first | rfl | (simp [FieldType.isReference] at ht)
theorem nar_b8 (x : Int32) : nar .byte ((Int32.toInt8 x).toInt32) = (Int32.toInt8 x).toInt32 := by simp [nar]
theorem nar_c16 (x : Int32) : nar .char ((Int32.toUInt32 x).toUInt16.toUInt32.toInt32) = (Int32.toUInt32 x).toUInt16.toUInt32.toInt32 := by simp only [nar, UInt32.toUInt32_toInt32, UInt16.toUInt16_toUInt32]
section Calls
variable {own : String} {index : Nat} {y z : MethodName} {bytes : ByteArray} {maxL : Nat} {ret : Option FieldType} {rm : Room} {W : Nat} {Qc : Option Value → Heap → List Loc → Prop} {argsL rest : List Value}
theorem callSt (X : Stand p l e R s m args below meth c T locs cells slots) (hx : p.tables.exec = Jvm.exec) (hZ : Z.Warmed39 s.vm) (hown : s.vm.findClass own = some m.cls)
    (w1 : (Jvm.Cond.methodLink own index y).before a0 Z = true) (w2 : (Jvm.Cond.static y).before a0 Z = true) (w3 : (Jvm.Cond.initialized y.cls).before a0 Z = true) (w4 : (Jvm.Cond.code y bytes maxL ret).before a0 Z = true) (hy : y.cls ≠ "java/lang/invoke/MethodHandle" ∧ y.cls ≠ "java/lang/invoke/VarHandle")
    (hC : Con FrameEnd l Z y bytes maxL ret rm argsL.toArray h Qc) (eT : T.heap = h) (hf : rm.frames + 1 ≤ R.frames) (hl : W + (maxL + 11) + rm.locals ≤ R.locals) (hc : cells + rm.cells ≤ R.cells) (hs : slots + rm.slots ≤ R.slots)
    (hg : g.method = m) (hsize : g.locals.size = c.maxLocals) (hlen : ∀ sig, parseMethodDescriptor y.desc = some sig → argsL.length = sig.parameters.length) (hstack : g.stack = argsL.reverse ++ rest) (hW : 2 * g.monitorRoom + (rest.map fun v => v.category).sum ≤ W) (hdg : decode c.code g.pc = .ok (.invokestatic index, 3)) :
    ∃ (v : Option Value) (T' : State) (L : List Loc), Stand p l e R s m args below meth c T' (locs ++ L) (cells + rm.cells) (slots + rm.slots) ∧ Qc v T'.heap L ∧ ∀ target, Steps p.tables e below (T'.setTop { g with pc := g.pc + 3, stack := v.toList ++ rest }) target → Steps p.tables e below (T.setTop g) target := by
  obtain ⟨v, _, ⟨T2, L2, k2, n2⟩, -, X2, ⟨Lc2, hQ2, l2, y2, z2⟩, st2⟩ := Jvm.LawKit.callS X hx hown (mvT hZ w1) (mvT hZ w2) (mvT hZ w3) (mvT hZ w4) hy (backOf (W := W) hC hZ w4 w3 hf hl) hg hsize hlen hstack hW hdg (fun _ _ => ⟨rfl, eT, hc, hs⟩)
  dsimp only [Pt.U, Pt.locs, Pt.cells, Pt.slots] at X2 l2 y2 z2 st2 hQ2
  subst l2 y2 z2
  exact ⟨v, T2, Lc2, X2, hQ2, st2⟩
theorem callCt (X : Stand p l e R s m args below meth c T locs cells slots) (hx : p.tables.exec = Jvm.exec) (hZ : Z.Warmed39 s.vm) (hy1 : y.name = "<init>") (hown : s.vm.findClass own = some m.cls)
    (w1 : (Jvm.Cond.methodLink own index y).before a0 Z = true) (w2 : (Jvm.Cond.instanceMethod y).before a0 Z = true) (w3 : (Jvm.Cond.initialized y.cls).before a0 Z = true) (w4 : (Jvm.Cond.code y bytes maxL none).before a0 Z = true) (hy : y.cls ≠ "java/lang/invoke/MethodHandle" ∧ y.cls ≠ "java/lang/invoke/VarHandle")
    {a : Addr} (hC : Con FrameEnd l Z y bytes maxL none rm (.ref a :: argsL).toArray h Qc) (eT : T.heap = h) (hf : rm.frames + 1 ≤ R.frames) (hl : W + (maxL + 11) + rm.locals ≤ R.locals) (hc : cells + rm.cells ≤ R.cells) (hs : slots + rm.slots ≤ R.slots)
    (hg : g.method = m) (hsize : g.locals.size = c.maxLocals) (hlen : ∀ sig, parseMethodDescriptor y.desc = some sig → argsL.length = sig.parameters.length) (hstack : g.stack = argsL.reverse ++ .ref a :: rest) (hW : 2 * g.monitorRoom + (rest.map fun v => v.category).sum ≤ W) (hdg : decode c.code g.pc = .ok (.invokespecial index, 3)) :
    ∃ (v : Option Value) (T' : State) (L : List Loc), Stand p l e R s m args below meth c T' (locs ++ L) (cells + rm.cells) (slots + rm.slots) ∧ Qc v T'.heap L ∧ ∀ target, Steps p.tables e below (T'.setTop { g with pc := g.pc + 3, stack := v.toList ++ rest }) target → Steps p.tables e below (T.setTop g) target := by
  obtain ⟨v, _, ⟨T2, L2, k2, n2⟩, -, X2, ⟨Lc2, hQ2, l2, y2, z2⟩, st2⟩ := X.specialBack hx hy1 hown (mvT hZ w1) (mvT hZ w2) (mvT hZ w4) hy (backOf (W := W) hC hZ w4 w3 hf hl) hg hsize (Steps.refl _) hlen hstack hW hdg (fun _ _ => ⟨rfl, eT, hc, hs⟩)
  dsimp only [Pt.U, Pt.locs, Pt.cells, Pt.slots] at X2 l2 y2 z2 st2 hQ2
  subst l2 y2 z2
  exact ⟨v, T2, Lc2, X2, hQ2, fun _ k => st2.trans k⟩
theorem callVt {C : String} (X : Stand p l e R s m args below meth c T locs cells slots) (hx : p.tables.exec = Jvm.exec) (hZ : Z.Warmed39 s.vm) (hown : s.vm.findClass own = some m.cls)
    (w1 : (Jvm.Cond.methodLink own index y).before a0 Z = true) (w2 : (Jvm.Cond.declares y).before a0 Z = true) (w3 : (Jvm.Cond.selects C y y).before a0 Z = true) (w4 : (Jvm.Cond.instanceMethod y).before a0 Z = true) (w5 : (Jvm.Cond.initialized y.cls).before a0 Z = true) (w6 : (Jvm.Cond.code y bytes maxL ret).before a0 Z = true)
    (hy : y.cls ≠ "java/lang/invoke/MethodHandle" ∧ y.cls ≠ "java/lang/invoke/VarHandle")
    {a : Addr} (hC : Con FrameEnd l Z y bytes maxL ret rm (.ref a :: argsL).toArray h Qc) (eT : T.heap = h) (EA : Exa Z h a C) (hf : rm.frames + 1 ≤ R.frames) (hl : W + (maxL + 11) + rm.locals ≤ R.locals) (hc : cells + rm.cells ≤ R.cells) (hs : slots + rm.slots ≤ R.slots)
    (hg : g.method = m) (hsize : g.locals.size = c.maxLocals) (hlen : ∀ sig, parseMethodDescriptor y.desc = some sig → argsL.length = sig.parameters.length) (hstack : g.stack = argsL.reverse ++ .ref a :: rest) (hW : 2 * g.monitorRoom + (rest.map fun v => v.category).sum ≤ W) (hdg : decode c.code g.pc = .ok (.invokevirtual index, 3)) :
    ∃ (v : Option Value) (T' : State) (L : List Loc), Stand p l e R s m args below meth c T' (locs ++ L) (cells + rm.cells) (slots + rm.slots) ∧ Qc v T'.heap L ∧ ∀ target, Steps p.tables e below (T'.setTop { g with pc := g.pc + 3, stack := v.toList ++ rest }) target → Steps p.tables e below (T.setTop g) target := by
  obtain ⟨cq, kq, qa, qb, qc⟩ := isOf hZ eT EA
  obtain ⟨v, _, ⟨T2, L2, k2, n2⟩, -, X2, ⟨Lc2, hQ2, l2, y2, z2⟩, st2⟩ := X.virtualBack hx hown (mvT hZ w1) (mvT hZ w2) (notFace_of_selects (args := #[]) (mvT hZ w3)) (mvT hZ w3) (mvT hZ w4) hy (backOf (W := W) hC hZ w6 w5 hf hl) qa qc hg hsize (Steps.refl _) hlen hstack hW hdg (fun _ _ => ⟨rfl, eT, hc, hs⟩)
  dsimp only [Pt.U, Pt.locs, Pt.cells, Pt.slots] at X2 l2 y2 z2 st2 hQ2
  subst l2 y2 z2
  exact ⟨v, T2, Lc2, X2, hQ2, fun _ k => st2.trans k⟩
theorem callVUt {C owner : String} (X : Stand p l e R s m args below meth c T locs cells slots) (hx : p.tables.exec = Jvm.exec) (hZ : Z.Warmed39 s.vm) (hown : s.vm.findClass own = some m.cls)
    (w1 : (Jvm.Cond.methodLink own index y).before a0 Z = true) (w1' : (Jvm.Cond.sameMethod y.cls owner y.name y.desc).before a0 Z = true) (w2 : (Jvm.Cond.declares ⟨owner, y.name, y.desc⟩).before a0 Z = true) (w3 : (Jvm.Cond.selects C y z).before a0 Z = true) (w4 : (Jvm.Cond.instanceMethod z).before a0 Z = true) (w5 : (Jvm.Cond.initialized z.cls).before a0 Z = true) (w6 : (Jvm.Cond.code z bytes maxL ret).before a0 Z = true)
    (hy : owner ≠ "java/lang/invoke/MethodHandle" ∧ owner ≠ "java/lang/invoke/VarHandle")
    {a : Addr} (hC : Con FrameEnd l Z z bytes maxL ret rm (.ref a :: argsL).toArray h Qc) (eT : T.heap = h) (EA : Exa Z h a C) (hf : rm.frames + 1 ≤ R.frames) (hl : W + (maxL + 11) + rm.locals ≤ R.locals) (hc : cells + rm.cells ≤ R.cells) (hs : slots + rm.slots ≤ R.slots)
    (hg : g.method = m) (hsize : g.locals.size = c.maxLocals) (hlen : ∀ sig, parseMethodDescriptor y.desc = some sig → argsL.length = sig.parameters.length) (hstack : g.stack = argsL.reverse ++ .ref a :: rest) (hW : 2 * g.monitorRoom + (rest.map fun v => v.category).sum ≤ W) (hdg : decode c.code g.pc = .ok (.invokevirtual index, 3)) :
    ∃ (v : Option Value) (T' : State) (L : List Loc), Stand p l e R s m args below meth c T' (locs ++ L) (cells + rm.cells) (slots + rm.slots) ∧ Qc v T'.heap L ∧ ∀ target, Steps p.tables e below (T'.setTop { g with pc := g.pc + 3, stack := v.toList ++ rest }) target → Steps p.tables e below (T.setTop g) target := by
  obtain ⟨cq, kq, qa, qb, qc⟩ := isOf hZ eT EA
  obtain ⟨v, _, ⟨T2, L2, k2, n2⟩, -, X2, ⟨Lc2, hQ2, l2, y2, z2⟩, st2⟩ := X.virtualBackUp hx hown (mvT hZ w1) (mvT hZ w1') (mvT hZ w2) hy (mvT hZ w3) (mvT hZ w4) (backOf (W := W) hC hZ w6 w5 hf hl) qa qc hg hsize (Steps.refl _) hlen hstack hW hdg (fun _ _ => ⟨rfl, eT, hc, hs⟩)
  dsimp only [Pt.U, Pt.locs, Pt.cells, Pt.slots] at X2 l2 y2 z2 st2 hQ2
  subst l2 y2 z2
  exact ⟨v, T2, Lc2, X2, hQ2, fun _ k => st2.trans k⟩
end Calls
end OwnKit
theorem w_0 : (Jvm.Cond.fieldLink "com/example/muster/muster/select/StrategySeededPinLaw" (7 : Nat) "com/example/muster/muster/select/Strategy" "GREEDY" "Lcom/example/muster/muster/select/Strategy;") ∈ tables_1 := List.mem_of_getElem? (i := 0) rfl
theorem w_1 : (Jvm.Cond.initialized "com/example/muster/muster/select/Strategy") ∈ tables_1 := List.mem_of_getElem? (i := 1) rfl
theorem w_2 : (Jvm.Cond.laysStatic "com/example/muster/muster/select/Strategy" "GREEDY" "Lcom/example/muster/muster/select/Strategy;") ∈ tables_1 := List.mem_of_getElem? (i := 2) rfl
theorem w_3 : (Jvm.Cond.methodLink "com/example/muster/muster/select/StrategySeededPinLaw" (22 : Nat) ({ cls := "com/example/muster/muster/select/Strategy", name := "seeded", desc := "()Z" } : Jvm.MethodName)) ∈ tables_1 := List.mem_of_getElem? (i := 3) rfl
theorem w_4 : (Jvm.Cond.declares ({ cls := "com/example/muster/muster/select/Strategy", name := "seeded", desc := "()Z" } : Jvm.MethodName)) ∈ tables_1 := List.mem_of_getElem? (i := 4) rfl
theorem w_5 : (Jvm.Cond.instanceMethod ({ cls := "com/example/muster/muster/select/Strategy", name := "seeded", desc := "()Z" } : Jvm.MethodName)) ∈ tables_1 := List.mem_of_getElem? (i := 5) rfl
theorem w_6 : (Jvm.Cond.selects "com/example/muster/muster/select/Strategy" ({ cls := "com/example/muster/muster/select/Strategy", name := "seeded", desc := "()Z" } : Jvm.MethodName) ({ cls := "com/example/muster/muster/select/Strategy", name := "seeded", desc := "()Z" } : Jvm.MethodName)) ∈ tables_1 := List.mem_of_getElem? (i := 6) rfl
theorem w_7 : (Jvm.Cond.code ({ cls := "com/example/muster/muster/select/Strategy", name := "seeded", desc := "()Z" } : Jvm.MethodName) prog_39_method_6_code (1 : Nat) (Option.some Jvm.ClassFile.FieldType.boolean)) ∈ tables_1 := List.mem_of_getElem? (i := 7) rfl
theorem w_8 : (Jvm.Cond.fieldLink "com/example/muster/muster/select/Strategy" (10 : Nat) "com/example/muster/muster/select/Strategy" "RANDOM" "Lcom/example/muster/muster/select/Strategy;") ∈ tables_1 := List.mem_of_getElem? (i := 8) rfl
theorem w_9 : (Jvm.Cond.laysStatic "com/example/muster/muster/select/Strategy" "RANDOM" "Lcom/example/muster/muster/select/Strategy;") ∈ tables_1 := List.mem_of_getElem? (i := 9) rfl
theorem w_10 : (Jvm.Cond.fieldLink "com/example/muster/muster/select/StrategySeededPinLaw" (19 : Nat) "com/example/muster/muster/select/Strategy" "CHEAPEST" "Lcom/example/muster/muster/select/Strategy;") ∈ tables_1 := List.mem_of_getElem? (i := 10) rfl
theorem w_11 : (Jvm.Cond.laysStatic "com/example/muster/muster/select/Strategy" "CHEAPEST" "Lcom/example/muster/muster/select/Strategy;") ∈ tables_1 := List.mem_of_getElem? (i := 11) rfl
theorem w_12 : (Jvm.Cond.fieldLink "com/example/muster/muster/select/StrategySeededPinLaw" (16 : Nat) "com/example/muster/muster/select/Strategy" "RANDOM" "Lcom/example/muster/muster/select/Strategy;") ∈ tables_1 := List.mem_of_getElem? (i := 12) rfl
theorem w_13 : (Jvm.Cond.fieldLink "com/example/muster/muster/select/StrategySeededPinLaw" (13 : Nat) "com/example/muster/muster/select/Strategy" "ENUMERATED" "Lcom/example/muster/muster/select/Strategy;") ∈ tables_1 := List.mem_of_getElem? (i := 13) rfl
theorem w_14 : (Jvm.Cond.laysStatic "com/example/muster/muster/select/Strategy" "ENUMERATED" "Lcom/example/muster/muster/select/Strategy;") ∈ tables_1 := List.mem_of_getElem? (i := 14) rfl
theorem pn_com_example_muster_muster_select_Strategy : plainName "com/example/muster/muster/select/Strategy" = true := by first | (simp [plainName, overriddenIn]; done) | decide +kernel
theorem d1_0 : decode prog_39_method_6_code 0 = .ok (.aload_n 0, 1) := by decide +kernel
theorem d1_1 : decode prog_39_method_6_code 1 = .ok (.getstatic 10, 3) := by decide +kernel
theorem d1_4 : decode prog_39_method_6_code 4 = .ok (.if_acmp .ne 7, 3) := by decide +kernel
theorem d1_7 : decode prog_39_method_6_code 7 = .ok (.iconst 1, 1) := by decide +kernel
theorem d1_8 : decode prog_39_method_6_code 8 = .ok (.goto 4, 3) := by decide +kernel
theorem d1_12 : decode prog_39_method_6_code 12 = .ok (.ireturn, 1) := by decide +kernel
theorem d1_11 : decode prog_39_method_6_code 11 = .ok (.iconst 0, 1) := by decide +kernel
theorem pn_com_example_muster_muster_select_StrategySeededPinLaw : plainName "com/example/muster/muster/select/StrategySeededPinLaw" = true := by first | (simp [plainName, overriddenIn]; done) | decide +kernel
theorem pd_ocZ : parseMethodDescriptor "()Z" = some ⟨[], some .boolean⟩ := by decide +kernel
set_option maxRecDepth 65536 in
set_option maxHeartbeats 40000000 in
theorem rm1 (l : Launch) (Z : State) (a0 : Array Value) (hw : ∀ d ∈ tables_1, d.before a0 Z = true) (n0 : Nat) (h0 : Heap) (O : Old Z n0 h0) (a1 aR : Addr) (S_R : Sta Z Z.heap "com/example/muster/muster/select/Strategy" "RANDOM" "Lcom/example/muster/muster/select/Strategy;" (.ref aR)) :
    ConW FrameEnd l Z [] (⟨"com/example/muster/muster/select/Strategy", "seeded", "()Z"⟩ : MethodName) prog_39_method_6_code 1 (some .boolean) ({ frames := 0, cells := 0, slots := 0, locals := 0 } : Room) #[(.ref a1)] h0 (Pure h0 (some (.int (if a1 = aR then 1 else 0)))) := by
  refine conOf (plainFor_of_name pn_com_example_muster_muster_select_Strategy) ?_
  intro p e s m below meth c s₁ X0 hx hby hml hown hnm hret hlk hZ e0
  have N0 := Fr.nil n0
  refine Fin.came (castTop (t := _) (by first | (simp [entryFrame, mkF, argsToLocals, Value.category]; done) | rfl) (Steps.refl _) : Steps p.tables e below (s₁.setTop (entryFrame m #[(.ref a1)] 1)) (s₁.setTop (mkF m 0 #[.val (.ref a1)] []))) ?_
  show Fin _ p e below s _ _ _ s₁ (mkF m 0 #[.val (.ref a1)] [])
  refine Fin.go (fun _ k => XS.aloadN X0.here hx rfl (hb hby d1_0) rfl rfl k) ?_
  show Fin _ p e below s _ _ _ s₁ (mkF m 1 #[.val (.ref a1)] [(.ref a1)])
  obtain ⟨T1, X1, e1, st1⟩ := getS2 X0 hx hZ hown (host := "") (Or.inl (hw _ w_8)) Via.refl e0 (S_R.ext O.2) (g := (mkF m 1 #[.val (.ref a1)] [(.ref a1)])) rfl (hb hby d1_1)
  refine Fin.go st1 ?_
  show Fin _ p e below s _ _ _ T1 (mkF m 4 #[.val (.ref a1)] [(.ref aR), (.ref a1)])
  by_cases c4 : a1 = aR
  · refine Fin.go (fun _ k => XT.acmpNo X1.here hx rfl (hb hby d1_4) rfl rfl rfl (XT.aa_ne_f (congrArg Value.ref c4)) k) ?_
    show Fin _ p e below s _ _ _ T1 (mkF m 7 #[.val (.ref a1)] [])
    refine Fin.go (fun _ k => XS.iconst X1.here hx rfl (hb hby d1_7) k) ?_
    show Fin _ p e below s _ _ _ T1 (mkF m 8 #[.val (.ref a1)] [(.int (1 : Int32))])
    refine Fin.go (fun _ k => XS.goto X1.here hx rfl (pc0 := 8) (pc' := 12) rfl (hb hby d1_8) (by decide) (by decide) k) ?_
    show Fin _ p e below s _ _ _ T1 (mkF m 12 #[.val (.ref a1)] [(.int (1 : Int32))])
    exact Fin.leaveN X1 e1 hlk (v := some (.int (nar .boolean (1 : Int32)))) (fun h => by rw [hret] at h; cases h) (by decide) (by decide) ⟨by simp [c4, nar], rfl, rfl⟩ (fun fs hr => retN X1 hx (t := .boolean) hret (by simp) (hb hby d1_12) hr)
  · refine Fin.go (fun _ k => XT.acmpYes X1.here hx rfl (pc0 := 4) (pc' := 11) rfl (hb hby d1_4) rfl rfl rfl (XT.aa_ne_t (fun q => c4 (Value.ref.inj q))) (by decide) (by decide) k) ?_
    show Fin _ p e below s _ _ _ T1 (mkF m 11 #[.val (.ref a1)] [])
    refine Fin.go (fun _ k => XS.iconst X1.here hx rfl (hb hby d1_11) k) ?_
    show Fin _ p e below s _ _ _ T1 (mkF m 12 #[.val (.ref a1)] [(.int (0 : Int32))])
    exact Fin.leaveN X1 e1 hlk (v := some (.int (nar .boolean (0 : Int32)))) (fun h => by rw [hret] at h; cases h) (by decide) (by decide) ⟨by simp [c4, nar], rfl, rfl⟩ (fun fs hr => retN X1 hx (t := .boolean) hret (by simp) (hb hby d1_12) hr)
set_option maxRecDepth 65536 in
set_option maxHeartbeats 40000000 in
theorem law (l : Launch) (Z : State) (a0 : Array Value) (hw : ∀ d ∈ tables_1, d.before a0 Z = true) (n0 : Nat) (h0 : Heap) (O : Old Z n0 h0) (p0 : Int32) (aG aE aR aC : Addr) (S_aG : Sta Z Z.heap "com/example/muster/muster/select/Strategy" "GREEDY" "Lcom/example/muster/muster/select/Strategy;" (.ref aG)) (A_aG : Exa Z Z.heap aG "com/example/muster/muster/select/Strategy") (S_aE : Sta Z Z.heap "com/example/muster/muster/select/Strategy" "ENUMERATED" "Lcom/example/muster/muster/select/Strategy;" (.ref aE)) (A_aE : Exa Z Z.heap aE "com/example/muster/muster/select/Strategy") (S_aR : Sta Z Z.heap "com/example/muster/muster/select/Strategy" "RANDOM" "Lcom/example/muster/muster/select/Strategy;" (.ref aR)) (A_aR : Exa Z Z.heap aR "com/example/muster/muster/select/Strategy") (S_aC : Sta Z Z.heap "com/example/muster/muster/select/Strategy" "CHEAPEST" "Lcom/example/muster/muster/select/Strategy;" (.ref aC)) (A_aC : Exa Z Z.heap aC "com/example/muster/muster/select/Strategy") (n_aG : ¬ aG = aR) (n_aE : ¬ aE = aR) (n_aC : ¬ aC = aR) :
    ConW FrameEnd l Z tables_1 x code maxLocals ret room_1 #[(.int p0)] h0 (fun v h L => v = some (.int 1) ∧ Fr n0 L) := by
  refine conOf (plainFor_of_name pn_com_example_muster_muster_select_StrategySeededPinLaw) ?_
  intro p e s m below meth c s₁ X0 hx hby hml hown hnm hret hlk hZ e0
  have N0 := Fr.nil n0
  refine Fin.came (castTop (t := _) (by first | (simp [entryFrame, mkF, argsToLocals, Value.category, maxLocals]; done) | rfl) (Steps.refl _) : Steps p.tables e below (s₁.setTop (entryFrame m #[(.int p0)] maxLocals)) (s₁.setTop (mkF m 0 #[.val (.int p0), .unset, .unset, .unset] []))) ?_
  show Fin _ p e below s _ _ _ s₁ (mkF m 0 #[.val (.int p0), .unset, .unset, .unset] [])
  refine Fin.go (fun _ k => XS.iloadN X0.here hx rfl (hb hby at_0) rfl k) ?_
  show Fin _ p e below s _ _ _ s₁ (mkF m 1 #[.val (.int p0), .unset, .unset, .unset] [(.int p0)])
  refine Fin.go (fun _ k => XS.iconst X0.here hx rfl (hb hby at_1) k) ?_
  show Fin _ p e below s _ _ _ s₁ (mkF m 2 #[.val (.int p0), .unset, .unset, .unset] [(.int (3 : Int32)), (.int p0)])
  refine Fin.go (fun _ k => XS.iand X0.here hx rfl (hb hby at_2) rfl k) ?_
  show Fin _ p e below s _ _ _ s₁ (mkF m 3 #[.val (.int p0), .unset, .unset, .unset] [(.int (p0 &&& (3 : Int32)))])
  refine Fin.go (fun _ k => XS.istoreN X0.here hx rfl (hb hby at_3) rfl (l' := #[.val (.int p0), .val (.int (p0 &&& (3 : Int32))), .unset, .unset]) rfl k) ?_
  show Fin _ p e below s _ _ _ s₁ (mkF m 4 #[.val (.int p0), .val (.int (p0 &&& (3 : Int32))), .unset, .unset] [])
  refine Fin.go (fun _ k => XS.iloadN X0.here hx rfl (hb hby at_4) rfl k) ?_
  show Fin _ p e below s _ _ _ s₁ (mkF m 5 #[.val (.int p0), .val (.int (p0 &&& (3 : Int32))), .unset, .unset] [(.int (p0 &&& (3 : Int32)))])
  by_cases c5 : (p0 &&& (3 : Int32)) = 0
  · refine Fin.go (fun _ k => XS.ifNo X0.here hx rfl (hb hby at_5) rfl (XT.i0_ne_f c5) k) ?_
    show Fin _ p e below s _ _ _ s₁ (mkF m 8 #[.val (.int p0), .val (.int (p0 &&& (3 : Int32))), .unset, .unset] [])
    obtain ⟨T1, X1, e1, st1⟩ := getS2 X0 hx hZ hown (host := "") (Or.inl (hw _ w_0)) Via.refl e0 (S_aG.ext O.2) (g := (mkF m 8 #[.val (.int p0), .val (.int (p0 &&& (3 : Int32))), .unset, .unset] [])) rfl (hb hby at_8)
    refine Fin.go st1 ?_
    show Fin _ p e below s _ _ _ T1 (mkF m 11 #[.val (.int p0), .val (.int (p0 &&& (3 : Int32))), .unset, .unset] [(.ref aG)])
    refine Fin.go (fun _ k => XS.astoreN X1.here hx rfl (hb hby at_11) rfl rfl (l' := #[.val (.int p0), .val (.int (p0 &&& (3 : Int32))), .val (.ref aG), .unset]) rfl k) ?_
    show Fin _ p e below s _ _ _ T1 (mkF m 12 #[.val (.int p0), .val (.int (p0 &&& (3 : Int32))), .val (.ref aG), .unset] [])
    refine Fin.go (fun _ k => XS.iconst X1.here hx rfl (hb hby at_12) k) ?_
    show Fin _ p e below s _ _ _ T1 (mkF m 13 #[.val (.int p0), .val (.int (p0 &&& (3 : Int32))), .val (.ref aG), .unset] [(.int (0 : Int32))])
    refine Fin.go (fun _ k => XS.istoreN X1.here hx rfl (hb hby at_13) rfl (l' := #[.val (.int p0), .val (.int (p0 &&& (3 : Int32))), .val (.ref aG), .val (.int (0 : Int32))]) rfl k) ?_
    show Fin _ p e below s _ _ _ T1 (mkF m 14 #[.val (.int p0), .val (.int (p0 &&& (3 : Int32))), .val (.ref aG), .val (.int (0 : Int32))] [])
    refine Fin.go (fun _ k => XS.goto X1.here hx rfl (pc0 := 14) (pc' := 51) rfl (hb hby at_14) (by decide) (by decide) k) ?_
    show Fin _ p e below s _ _ _ T1 (mkF m 51 #[.val (.int p0), .val (.int (p0 &&& (3 : Int32))), .val (.ref aG), .val (.int (0 : Int32))] [])
    refine Fin.go (fun _ k => XS.aloadN X1.here hx rfl (hb hby at_51) rfl rfl k) ?_
    show Fin _ p e below s _ _ _ T1 (mkF m 52 #[.val (.int p0), .val (.int (p0 &&& (3 : Int32))), .val (.ref aG), .val (.int (0 : Int32))] [(.ref aG)])
    have r2 := rm1 l Z a0 hw n0 h0 O aG aR S_aR
    rw [if_neg n_aG] at r2
    obtain ⟨v3, T3, L3, X3, q3, st3⟩ := callVt X1 hx hZ (y := (⟨"com/example/muster/muster/select/Strategy", "seeded", "()Z"⟩ : MethodName)) hown (hw _ w_3) (hw _ w_4) (hw _ w_6) (hw _ w_5) (hw _ w_1) (hw _ w_7) (by decide) (W := 0) (r2) e1 (A_aG.ext O.2) (by decide) (by decide) (by decide) (by decide) (g := (mkF m 52 #[.val (.int p0), .val (.int (p0 &&& (3 : Int32))), .val (.ref aG), .val (.int (0 : Int32))] [(.ref aG)])) rfl (by rw [hml]; rfl) (argsL := []) (rest := []) (lenOf pd_ocZ rfl) rfl (by show 2 * 0 + _ ≤ _; exact Nat.le_of_eq rfl) (hb hby at_52)
    obtain ⟨rfl, e3, rfl⟩ := q3
    have N3 := Fr.app N0 (Fr.nil n0)
    refine Fin.go st3 ?_
    show Fin _ p e below s _ _ _ T3 (mkF m 55 #[.val (.int p0), .val (.int (p0 &&& (3 : Int32))), .val (.ref aG), .val (.int (0 : Int32))] [(.int (0 : Int32))])
    refine Fin.go (fun _ k => XS.iloadN X3.here hx rfl (hb hby at_55) rfl k) ?_
    show Fin _ p e below s _ _ _ T3 (mkF m 56 #[.val (.int p0), .val (.int (p0 &&& (3 : Int32))), .val (.ref aG), .val (.int (0 : Int32))] [(.int (0 : Int32)), (.int (0 : Int32))])
    refine Fin.go (fun _ k => XS.icmpNo X3.here hx rfl (hb hby at_56) rfl (XT.ii_ne_f (by decide)) k) ?_
    show Fin _ p e below s _ _ _ T3 (mkF m 59 #[.val (.int p0), .val (.int (p0 &&& (3 : Int32))), .val (.ref aG), .val (.int (0 : Int32))] [])
    refine Fin.go (fun _ k => XS.iconst X3.here hx rfl (hb hby at_59) k) ?_
    show Fin _ p e below s _ _ _ T3 (mkF m 60 #[.val (.int p0), .val (.int (p0 &&& (3 : Int32))), .val (.ref aG), .val (.int (0 : Int32))] [(.int (1 : Int32))])
    refine Fin.go (fun _ k => XS.goto X3.here hx rfl (pc0 := 60) (pc' := 64) rfl (hb hby at_60) (by decide) (by decide) k) ?_
    show Fin _ p e below s _ _ _ T3 (mkF m 64 #[.val (.int p0), .val (.int (p0 &&& (3 : Int32))), .val (.ref aG), .val (.int (0 : Int32))] [(.int (1 : Int32))])
    exact Fin.leaveN X3 e3 hlk (v := some (.int (nar .boolean (1 : Int32)))) (fun h => by rw [hret] at h; cases h) (by decide) (by decide) ⟨rfl, N3⟩ (fun fs hr => retN X3 hx (t := .boolean) hret (by simp) (hb hby at_64) hr)
  · refine Fin.go (fun _ k => XS.ifYes X0.here hx rfl (pc0 := 5) (pc' := 17) rfl (hb hby at_5) rfl (XT.i0_ne_t c5) (by decide) (by decide) k) ?_
    show Fin _ p e below s _ _ _ s₁ (mkF m 17 #[.val (.int p0), .val (.int (p0 &&& (3 : Int32))), .unset, .unset] [])
    refine Fin.go (fun _ k => XS.iloadN X0.here hx rfl (hb hby at_17) rfl k) ?_
    show Fin _ p e below s _ _ _ s₁ (mkF m 18 #[.val (.int p0), .val (.int (p0 &&& (3 : Int32))), .unset, .unset] [(.int (p0 &&& (3 : Int32)))])
    refine Fin.go (fun _ k => XS.iconst X0.here hx rfl (hb hby at_18) k) ?_
    show Fin _ p e below s _ _ _ s₁ (mkF m 19 #[.val (.int p0), .val (.int (p0 &&& (3 : Int32))), .unset, .unset] [(.int (1 : Int32)), (.int (p0 &&& (3 : Int32)))])
    by_cases c19 : (p0 &&& (3 : Int32)) = (1 : Int32)
    · refine Fin.go (fun _ k => XS.icmpNo X0.here hx rfl (hb hby at_19) rfl (XT.ii_ne_f c19) k) ?_
      show Fin _ p e below s _ _ _ s₁ (mkF m 22 #[.val (.int p0), .val (.int (p0 &&& (3 : Int32))), .unset, .unset] [])
      obtain ⟨T4, X4, e4, st4⟩ := getS2 X0 hx hZ hown (host := "") (Or.inl (hw _ w_13)) Via.refl e0 (S_aE.ext O.2) (g := (mkF m 22 #[.val (.int p0), .val (.int (p0 &&& (3 : Int32))), .unset, .unset] [])) rfl (hb hby at_22)
      refine Fin.go st4 ?_
      show Fin _ p e below s _ _ _ T4 (mkF m 25 #[.val (.int p0), .val (.int (p0 &&& (3 : Int32))), .unset, .unset] [(.ref aE)])
      refine Fin.go (fun _ k => XS.astoreN X4.here hx rfl (hb hby at_25) rfl rfl (l' := #[.val (.int p0), .val (.int (p0 &&& (3 : Int32))), .val (.ref aE), .unset]) rfl k) ?_
      show Fin _ p e below s _ _ _ T4 (mkF m 26 #[.val (.int p0), .val (.int (p0 &&& (3 : Int32))), .val (.ref aE), .unset] [])
      refine Fin.go (fun _ k => XS.iconst X4.here hx rfl (hb hby at_26) k) ?_
      show Fin _ p e below s _ _ _ T4 (mkF m 27 #[.val (.int p0), .val (.int (p0 &&& (3 : Int32))), .val (.ref aE), .unset] [(.int (0 : Int32))])
      refine Fin.go (fun _ k => XS.istoreN X4.here hx rfl (hb hby at_27) rfl (l' := #[.val (.int p0), .val (.int (p0 &&& (3 : Int32))), .val (.ref aE), .val (.int (0 : Int32))]) rfl k) ?_
      show Fin _ p e below s _ _ _ T4 (mkF m 28 #[.val (.int p0), .val (.int (p0 &&& (3 : Int32))), .val (.ref aE), .val (.int (0 : Int32))] [])
      refine Fin.go (fun _ k => XS.goto X4.here hx rfl (pc0 := 28) (pc' := 51) rfl (hb hby at_28) (by decide) (by decide) k) ?_
      show Fin _ p e below s _ _ _ T4 (mkF m 51 #[.val (.int p0), .val (.int (p0 &&& (3 : Int32))), .val (.ref aE), .val (.int (0 : Int32))] [])
      refine Fin.go (fun _ k => XS.aloadN X4.here hx rfl (hb hby at_51) rfl rfl k) ?_
      show Fin _ p e below s _ _ _ T4 (mkF m 52 #[.val (.int p0), .val (.int (p0 &&& (3 : Int32))), .val (.ref aE), .val (.int (0 : Int32))] [(.ref aE)])
      have r5 := rm1 l Z a0 hw n0 h0 O aE aR S_aR
      rw [if_neg n_aE] at r5
      obtain ⟨v6, T6, L6, X6, q6, st6⟩ := callVt X4 hx hZ (y := (⟨"com/example/muster/muster/select/Strategy", "seeded", "()Z"⟩ : MethodName)) hown (hw _ w_3) (hw _ w_4) (hw _ w_6) (hw _ w_5) (hw _ w_1) (hw _ w_7) (by decide) (W := 0) (r5) e4 (A_aE.ext O.2) (by decide) (by decide) (by decide) (by decide) (g := (mkF m 52 #[.val (.int p0), .val (.int (p0 &&& (3 : Int32))), .val (.ref aE), .val (.int (0 : Int32))] [(.ref aE)])) rfl (by rw [hml]; rfl) (argsL := []) (rest := []) (lenOf pd_ocZ rfl) rfl (by show 2 * 0 + _ ≤ _; exact Nat.le_of_eq rfl) (hb hby at_52)
      obtain ⟨rfl, e6, rfl⟩ := q6
      have N6 := Fr.app N0 (Fr.nil n0)
      refine Fin.go st6 ?_
      show Fin _ p e below s _ _ _ T6 (mkF m 55 #[.val (.int p0), .val (.int (p0 &&& (3 : Int32))), .val (.ref aE), .val (.int (0 : Int32))] [(.int (0 : Int32))])
      refine Fin.go (fun _ k => XS.iloadN X6.here hx rfl (hb hby at_55) rfl k) ?_
      show Fin _ p e below s _ _ _ T6 (mkF m 56 #[.val (.int p0), .val (.int (p0 &&& (3 : Int32))), .val (.ref aE), .val (.int (0 : Int32))] [(.int (0 : Int32)), (.int (0 : Int32))])
      refine Fin.go (fun _ k => XS.icmpNo X6.here hx rfl (hb hby at_56) rfl (XT.ii_ne_f (by decide)) k) ?_
      show Fin _ p e below s _ _ _ T6 (mkF m 59 #[.val (.int p0), .val (.int (p0 &&& (3 : Int32))), .val (.ref aE), .val (.int (0 : Int32))] [])
      refine Fin.go (fun _ k => XS.iconst X6.here hx rfl (hb hby at_59) k) ?_
      show Fin _ p e below s _ _ _ T6 (mkF m 60 #[.val (.int p0), .val (.int (p0 &&& (3 : Int32))), .val (.ref aE), .val (.int (0 : Int32))] [(.int (1 : Int32))])
      refine Fin.go (fun _ k => XS.goto X6.here hx rfl (pc0 := 60) (pc' := 64) rfl (hb hby at_60) (by decide) (by decide) k) ?_
      show Fin _ p e below s _ _ _ T6 (mkF m 64 #[.val (.int p0), .val (.int (p0 &&& (3 : Int32))), .val (.ref aE), .val (.int (0 : Int32))] [(.int (1 : Int32))])
      exact Fin.leaveN X6 e6 hlk (v := some (.int (nar .boolean (1 : Int32)))) (fun h => by rw [hret] at h; cases h) (by decide) (by decide) ⟨rfl, N6⟩ (fun fs hr => retN X6 hx (t := .boolean) hret (by simp) (hb hby at_64) hr)
    · refine Fin.go (fun _ k => XS.icmpYes X0.here hx rfl (pc0 := 19) (pc' := 31) rfl (hb hby at_19) rfl (XT.ii_ne_t c19) (by decide) (by decide) k) ?_
      show Fin _ p e below s _ _ _ s₁ (mkF m 31 #[.val (.int p0), .val (.int (p0 &&& (3 : Int32))), .unset, .unset] [])
      refine Fin.go (fun _ k => XS.iloadN X0.here hx rfl (hb hby at_31) rfl k) ?_
      show Fin _ p e below s _ _ _ s₁ (mkF m 32 #[.val (.int p0), .val (.int (p0 &&& (3 : Int32))), .unset, .unset] [(.int (p0 &&& (3 : Int32)))])
      refine Fin.go (fun _ k => XS.iconst X0.here hx rfl (hb hby at_32) k) ?_
      show Fin _ p e below s _ _ _ s₁ (mkF m 33 #[.val (.int p0), .val (.int (p0 &&& (3 : Int32))), .unset, .unset] [(.int (2 : Int32)), (.int (p0 &&& (3 : Int32)))])
      by_cases c33 : (p0 &&& (3 : Int32)) = (2 : Int32)
      · refine Fin.go (fun _ k => XS.icmpNo X0.here hx rfl (hb hby at_33) rfl (XT.ii_ne_f c33) k) ?_
        show Fin _ p e below s _ _ _ s₁ (mkF m 36 #[.val (.int p0), .val (.int (p0 &&& (3 : Int32))), .unset, .unset] [])
        obtain ⟨T7, X7, e7, st7⟩ := getS2 X0 hx hZ hown (host := "") (Or.inl (hw _ w_12)) Via.refl e0 (S_aR.ext O.2) (g := (mkF m 36 #[.val (.int p0), .val (.int (p0 &&& (3 : Int32))), .unset, .unset] [])) rfl (hb hby at_36)
        refine Fin.go st7 ?_
        show Fin _ p e below s _ _ _ T7 (mkF m 39 #[.val (.int p0), .val (.int (p0 &&& (3 : Int32))), .unset, .unset] [(.ref aR)])
        refine Fin.go (fun _ k => XS.astoreN X7.here hx rfl (hb hby at_39) rfl rfl (l' := #[.val (.int p0), .val (.int (p0 &&& (3 : Int32))), .val (.ref aR), .unset]) rfl k) ?_
        show Fin _ p e below s _ _ _ T7 (mkF m 40 #[.val (.int p0), .val (.int (p0 &&& (3 : Int32))), .val (.ref aR), .unset] [])
        refine Fin.go (fun _ k => XS.iconst X7.here hx rfl (hb hby at_40) k) ?_
        show Fin _ p e below s _ _ _ T7 (mkF m 41 #[.val (.int p0), .val (.int (p0 &&& (3 : Int32))), .val (.ref aR), .unset] [(.int (1 : Int32))])
        refine Fin.go (fun _ k => XS.istoreN X7.here hx rfl (hb hby at_41) rfl (l' := #[.val (.int p0), .val (.int (p0 &&& (3 : Int32))), .val (.ref aR), .val (.int (1 : Int32))]) rfl k) ?_
        show Fin _ p e below s _ _ _ T7 (mkF m 42 #[.val (.int p0), .val (.int (p0 &&& (3 : Int32))), .val (.ref aR), .val (.int (1 : Int32))] [])
        refine Fin.go (fun _ k => XS.goto X7.here hx rfl (pc0 := 42) (pc' := 51) rfl (hb hby at_42) (by decide) (by decide) k) ?_
        show Fin _ p e below s _ _ _ T7 (mkF m 51 #[.val (.int p0), .val (.int (p0 &&& (3 : Int32))), .val (.ref aR), .val (.int (1 : Int32))] [])
        refine Fin.go (fun _ k => XS.aloadN X7.here hx rfl (hb hby at_51) rfl rfl k) ?_
        show Fin _ p e below s _ _ _ T7 (mkF m 52 #[.val (.int p0), .val (.int (p0 &&& (3 : Int32))), .val (.ref aR), .val (.int (1 : Int32))] [(.ref aR)])
        have r8 := rm1 l Z a0 hw n0 h0 O aR aR S_aR
        rw [if_pos rfl] at r8
        obtain ⟨v9, T9, L9, X9, q9, st9⟩ := callVt X7 hx hZ (y := (⟨"com/example/muster/muster/select/Strategy", "seeded", "()Z"⟩ : MethodName)) hown (hw _ w_3) (hw _ w_4) (hw _ w_6) (hw _ w_5) (hw _ w_1) (hw _ w_7) (by decide) (W := 0) (r8) e7 (A_aR.ext O.2) (by decide) (by decide) (by decide) (by decide) (g := (mkF m 52 #[.val (.int p0), .val (.int (p0 &&& (3 : Int32))), .val (.ref aR), .val (.int (1 : Int32))] [(.ref aR)])) rfl (by rw [hml]; rfl) (argsL := []) (rest := []) (lenOf pd_ocZ rfl) rfl (by show 2 * 0 + _ ≤ _; exact Nat.le_of_eq rfl) (hb hby at_52)
        obtain ⟨rfl, e9, rfl⟩ := q9
        have N9 := Fr.app N0 (Fr.nil n0)
        refine Fin.go st9 ?_
        show Fin _ p e below s _ _ _ T9 (mkF m 55 #[.val (.int p0), .val (.int (p0 &&& (3 : Int32))), .val (.ref aR), .val (.int (1 : Int32))] [(.int (1 : Int32))])
        refine Fin.go (fun _ k => XS.iloadN X9.here hx rfl (hb hby at_55) rfl k) ?_
        show Fin _ p e below s _ _ _ T9 (mkF m 56 #[.val (.int p0), .val (.int (p0 &&& (3 : Int32))), .val (.ref aR), .val (.int (1 : Int32))] [(.int (1 : Int32)), (.int (1 : Int32))])
        refine Fin.go (fun _ k => XS.icmpNo X9.here hx rfl (hb hby at_56) rfl (XT.ii_ne_f (by decide)) k) ?_
        show Fin _ p e below s _ _ _ T9 (mkF m 59 #[.val (.int p0), .val (.int (p0 &&& (3 : Int32))), .val (.ref aR), .val (.int (1 : Int32))] [])
        refine Fin.go (fun _ k => XS.iconst X9.here hx rfl (hb hby at_59) k) ?_
        show Fin _ p e below s _ _ _ T9 (mkF m 60 #[.val (.int p0), .val (.int (p0 &&& (3 : Int32))), .val (.ref aR), .val (.int (1 : Int32))] [(.int (1 : Int32))])
        refine Fin.go (fun _ k => XS.goto X9.here hx rfl (pc0 := 60) (pc' := 64) rfl (hb hby at_60) (by decide) (by decide) k) ?_
        show Fin _ p e below s _ _ _ T9 (mkF m 64 #[.val (.int p0), .val (.int (p0 &&& (3 : Int32))), .val (.ref aR), .val (.int (1 : Int32))] [(.int (1 : Int32))])
        exact Fin.leaveN X9 e9 hlk (v := some (.int (nar .boolean (1 : Int32)))) (fun h => by rw [hret] at h; cases h) (by decide) (by decide) ⟨rfl, N9⟩ (fun fs hr => retN X9 hx (t := .boolean) hret (by simp) (hb hby at_64) hr)
      · refine Fin.go (fun _ k => XS.icmpYes X0.here hx rfl (pc0 := 33) (pc' := 45) rfl (hb hby at_33) rfl (XT.ii_ne_t c33) (by decide) (by decide) k) ?_
        show Fin _ p e below s _ _ _ s₁ (mkF m 45 #[.val (.int p0), .val (.int (p0 &&& (3 : Int32))), .unset, .unset] [])
        obtain ⟨T10, X10, e10, st10⟩ := getS2 X0 hx hZ hown (host := "") (Or.inl (hw _ w_10)) Via.refl e0 (S_aC.ext O.2) (g := (mkF m 45 #[.val (.int p0), .val (.int (p0 &&& (3 : Int32))), .unset, .unset] [])) rfl (hb hby at_45)
        refine Fin.go st10 ?_
        show Fin _ p e below s _ _ _ T10 (mkF m 48 #[.val (.int p0), .val (.int (p0 &&& (3 : Int32))), .unset, .unset] [(.ref aC)])
        refine Fin.go (fun _ k => XS.astoreN X10.here hx rfl (hb hby at_48) rfl rfl (l' := #[.val (.int p0), .val (.int (p0 &&& (3 : Int32))), .val (.ref aC), .unset]) rfl k) ?_
        show Fin _ p e below s _ _ _ T10 (mkF m 49 #[.val (.int p0), .val (.int (p0 &&& (3 : Int32))), .val (.ref aC), .unset] [])
        refine Fin.go (fun _ k => XS.iconst X10.here hx rfl (hb hby at_49) k) ?_
        show Fin _ p e below s _ _ _ T10 (mkF m 50 #[.val (.int p0), .val (.int (p0 &&& (3 : Int32))), .val (.ref aC), .unset] [(.int (0 : Int32))])
        refine Fin.go (fun _ k => XS.istoreN X10.here hx rfl (hb hby at_50) rfl (l' := #[.val (.int p0), .val (.int (p0 &&& (3 : Int32))), .val (.ref aC), .val (.int (0 : Int32))]) rfl k) ?_
        show Fin _ p e below s _ _ _ T10 (mkF m 51 #[.val (.int p0), .val (.int (p0 &&& (3 : Int32))), .val (.ref aC), .val (.int (0 : Int32))] [])
        refine Fin.go (fun _ k => XS.aloadN X10.here hx rfl (hb hby at_51) rfl rfl k) ?_
        show Fin _ p e below s _ _ _ T10 (mkF m 52 #[.val (.int p0), .val (.int (p0 &&& (3 : Int32))), .val (.ref aC), .val (.int (0 : Int32))] [(.ref aC)])
        have r11 := rm1 l Z a0 hw n0 h0 O aC aR S_aR
        rw [if_neg n_aC] at r11
        obtain ⟨v12, T12, L12, X12, q12, st12⟩ := callVt X10 hx hZ (y := (⟨"com/example/muster/muster/select/Strategy", "seeded", "()Z"⟩ : MethodName)) hown (hw _ w_3) (hw _ w_4) (hw _ w_6) (hw _ w_5) (hw _ w_1) (hw _ w_7) (by decide) (W := 0) (r11) e10 (A_aC.ext O.2) (by decide) (by decide) (by decide) (by decide) (g := (mkF m 52 #[.val (.int p0), .val (.int (p0 &&& (3 : Int32))), .val (.ref aC), .val (.int (0 : Int32))] [(.ref aC)])) rfl (by rw [hml]; rfl) (argsL := []) (rest := []) (lenOf pd_ocZ rfl) rfl (by show 2 * 0 + _ ≤ _; exact Nat.le_of_eq rfl) (hb hby at_52)
        obtain ⟨rfl, e12, rfl⟩ := q12
        have N12 := Fr.app N0 (Fr.nil n0)
        refine Fin.go st12 ?_
        show Fin _ p e below s _ _ _ T12 (mkF m 55 #[.val (.int p0), .val (.int (p0 &&& (3 : Int32))), .val (.ref aC), .val (.int (0 : Int32))] [(.int (0 : Int32))])
        refine Fin.go (fun _ k => XS.iloadN X12.here hx rfl (hb hby at_55) rfl k) ?_
        show Fin _ p e below s _ _ _ T12 (mkF m 56 #[.val (.int p0), .val (.int (p0 &&& (3 : Int32))), .val (.ref aC), .val (.int (0 : Int32))] [(.int (0 : Int32)), (.int (0 : Int32))])
        refine Fin.go (fun _ k => XS.icmpNo X12.here hx rfl (hb hby at_56) rfl (XT.ii_ne_f (by decide)) k) ?_
        show Fin _ p e below s _ _ _ T12 (mkF m 59 #[.val (.int p0), .val (.int (p0 &&& (3 : Int32))), .val (.ref aC), .val (.int (0 : Int32))] [])
        refine Fin.go (fun _ k => XS.iconst X12.here hx rfl (hb hby at_59) k) ?_
        show Fin _ p e below s _ _ _ T12 (mkF m 60 #[.val (.int p0), .val (.int (p0 &&& (3 : Int32))), .val (.ref aC), .val (.int (0 : Int32))] [(.int (1 : Int32))])
        refine Fin.go (fun _ k => XS.goto X12.here hx rfl (pc0 := 60) (pc' := 64) rfl (hb hby at_60) (by decide) (by decide) k) ?_
        show Fin _ p e below s _ _ _ T12 (mkF m 64 #[.val (.int p0), .val (.int (p0 &&& (3 : Int32))), .val (.ref aC), .val (.int (0 : Int32))] [(.int (1 : Int32))])
        exact Fin.leaveN X12 e12 hlk (v := some (.int (nar .boolean (1 : Int32)))) (fun h => by rw [hret] at h; cases h) (by decide) (by decide) ⟨rfl, N12⟩ (fun fs hr => retN X12 hx (t := .boolean) hret (by simp) (hb hby at_64) hr)
theorem fldOf {s : State} {args : Array Value} {t : Term} {a : Addr} {C n d : String} {k : Int32} (ev : t.eval args s none [] s = some (.ref a)) (h : (Jvm.Cond.eq (.field t C n d) (.int k)).value args s none s [] = some true) : Fld s s.heap a C n d (.int k) :=
  Fld.start ((fld_at ev).symm.trans (eqv_i (F := .int k) rfl h))
set_option maxRecDepth 65536 in
set_option maxHeartbeats 40000000 in
theorem comes_1 {Post : Tables → Env → Array Value → State → Outcome → State → Prop} (hpost : ∀ tb e args s v u, (limb_1_1.after args s (.returned v) u = true ∧ limb_1_2.after args s (.returned v) u = true ∧ True) → FrameEnd s (.returned v) u (Jvm.fieldLocs frame_1_writes args s ++ Jvm.arrayLocs frame_1_arrays args s ++ Jvm.staticLocs frame_1_statics s) 0 0 → Post tb e args s (.returned v) u) :
    ArmFor flags0 classFile x code maxLocals ret World_1 tables_1 room_1 Calls_1 rest_1 Pre_1 Post := by
  intro l hfl _ _ p e ha hc hk s m args below hf hA hF happ hP
  obtain ⟨hcalls, hrest, hpre⟩ := hP
  obtain ⟨-, -, -, hnamed, -, -, -, hat⟩ := (Spec.applies_iff hf).mp happ
  obtain ⟨hg, hn⟩ := and_e (Cond.before_iff.mp (show (Jvm.Cond.and given_1 narrow_1).before args s = true from hpre))
  obtain ⟨hcnt, hg⟩ := and_e hg
  obtain ⟨u0, rfl⟩ : ∃ u0 : Value, args = #[u0] := by
    have hs : args.size = 1 := by simpa [Cond.value, given_1] using hcnt
    obtain ⟨L⟩ := args
    match L, hs with
    | [u0], _ => exact ⟨u0, rfl⟩
  have hw := fun d (hd : d ∈ tables_1) => atoms_spec (ws := Jvm.Cond.code x code maxLocals ret :: tables_1) hat d (List.mem_cons_of_mem _ hd)
  have hfit : Fit s := fun {y c} hc i hi => by
    obtain ⟨ha, rfl⟩ := Array.getElem?_eq_some_iff.mp hc
    have q := List.all_eq_true.mp ((Array.all_eq_true_iff_forall_mem.mp hF) _ (Array.getElem_mem ha)) i (List.mem_range.mpr hi)
    simpa [Array.getElem?_eq_getElem hi] using q
  have g0 := hg
  obtain ⟨i0, ei0⟩ := is_v g0
  obtain rfl : u0 = (.int i0) := Option.some.inj ei0
  have x_aG := (and_e hn).1
  obtain ⟨aG, ev_aG⟩ := exa_v x_aG
  have A_aG := Exa.start ev_aG x_aG
  have S_aG := Sta.start ev_aG (Or.inr ⟨(hw _ w_1), (hw _ w_2)⟩)
  have F_aG := fldOf ev_aG ((and_e (and_e (and_e hn).2).2).1)
  have x_aE := (and_e (and_e (and_e (and_e (and_e (and_e (and_e hn).2).2).2).2).2).2).1
  obtain ⟨aE, ev_aE⟩ := exa_v x_aE
  have A_aE := Exa.start ev_aE x_aE
  have S_aE := Sta.start ev_aE (Or.inr ⟨(hw _ w_1), (hw _ w_14)⟩)
  have F_aE := fldOf ev_aE ((and_e (and_e (and_e (and_e (and_e (and_e (and_e hn).2).2).2).2).2).2).2)
  have x_aR := (and_e (and_e hn).2).1
  obtain ⟨aR, ev_aR⟩ := exa_v x_aR
  have A_aR := Exa.start ev_aR x_aR
  have S_aR := Sta.start ev_aR (Or.inr ⟨(hw _ w_1), (hw _ w_9)⟩)
  have F_aR := fldOf ev_aR ((and_e (and_e (and_e (and_e hn).2).2).2).1)
  have x_aC := (and_e (and_e (and_e (and_e (and_e hn).2).2).2).2).1
  obtain ⟨aC, ev_aC⟩ := exa_v x_aC
  have A_aC := Exa.start ev_aC x_aC
  have S_aC := Sta.start ev_aC (Or.inr ⟨(hw _ w_1), (hw _ w_11)⟩)
  have F_aC := fldOf ev_aC ((and_e (and_e (and_e (and_e (and_e (and_e hn).2).2).2).2).2).1)
  obtain ⟨n, o, h1, h2, h3, _, L, rfl, ⟨rfl, N⟩, hq⟩ := law l s _ hw s.heap.size s.heap (Old.start s) i0 aG aE aR aC S_aG A_aG S_aE A_aE S_aR A_aR S_aC A_aC (F_aG.ne F_aR (by decide)) (F_aE.ne F_aR (by decide)) (F_aC.ne F_aR (by decide)) p e ha hc hk s m _ below hf ((Spec.applies_iff_loose hf).mp happ).1 ⟨rfl, State.Warmed39.refl s, rfl⟩ trivial
  refine ⟨n, _, h1, h2, h3, hpost _ _ _ _ _ _ ⟨Cond.after_iff.mpr rfl, Cond.after_iff.mpr (eq_i res_at (Term.int_eval (1)) rfl), trivial⟩ ⟨hq.1, hq.2.1, (hq.2.2.sift fun y hy => Or.inr (N y hy)).mono (by decide) (by decide)⟩⟩
theorem main_1_1 : Claimed_1_1 := comes_1 fun _ _ _ _ _ _ h hF => ⟨h.1, hF⟩
theorem main_1_2 : Claimed_1_2 := comes_1 fun _ _ _ _ _ _ h hF => ⟨h.2.1, hF⟩
end Jvm.Pilot.@@N@@
namespace Jvm.Pilot.@@N@@
open Jvm Jvm.ClassFile Sem Op Lib Jvm.Free Jvm.Stand Jvm.Pilot.@@N@@.Jvm.D
/-! MADE BY PROGRAM (witnessworld.py) out of the Statement's table words and the real class files: 12 classes; the members and pool entries that the words name. The judged class is class 1, her method 1. -/
namespace start1
open Jvm.ClassFile
def u (s : String) : CpInfo := .utf8 (stringToUtf16 s)
/-- a pool by its gaps: so many unusable entries, then the entry; so many at the end -/
def gap : Nat → List CpInfo → List CpInfo
  | 0, r => r
  | n + 1, r => .unusable :: gap n r
def poolList (es : List (Nat × CpInfo)) (last : Nat) : List CpInfo := es.foldr (fun e r => gap e.1 (e.2 :: r)) (gap last [])
def pool (es : List (Nat × CpInfo)) (last : Nat) : Array CpInfo := ⟨poolList es last⟩
def fileOf (pool : Array CpInfo) (this : Nat) (attrs : Array Attribute := #[]) (ms : Array MethodInfo := #[]) (fl : Nat := 33) (sup : Nat := 0) (ifs : Array Nat := #[]) (fds : Array FieldInfo := #[]) : ClassFile where
  minorVersion := 0
  majorVersion := 65
  constantPool := pool
  accessFlags := fl
  thisClass := this
  superClass := sup
  interfaces := ifs
  fields := fds
  methods := ms
  attributes := attrs
def plain (name : String) (sup : Option ClassId) : Class where
  name := name
  kind := .ordinary
  loader := none
  accessFlags := 33
  super := sup
  interfaces := #[]
  cf := none
  fields := #[]
  methods := #[]
  instanceTypes := #[]
  staticTypes := #[]
  resolved := #[]
  callSites := []
  init := .initialized
  statics := none
  mirror := none

def pool0 : Array CpInfo := pool [(5, u "<init>"), (0, u "()V"), (1, .class_ 10), (1, u "java/lang/Object")] 113

def k0m0 : Method := { name := "<init>", desc := "()V", sig := { parameters := [], returnType := none }, accessFlags := 1, code := none }
/-- java/lang/Object -/
def k0 : Class := { plain "java/lang/Object" none with
  accessFlags := 33
  interfaces := #[]
  cf := some (fileOf pool0 8 #[] #[{ accessFlags := 1, nameIndex := 5, descriptorIndex := 6, attributes := #[] }] 33 0 #[] #[])
  fields := #[]
  methods := #[k0m0]
  instanceTypes := #[]
  staticTypes := #[]
  resolved := Array.replicate 124 none
  statics := none }

def pool1 : Array CpInfo := pool [(2, .class_ 4), (1, u "java/lang/Object"), (0, u "<init>"), (0, u "()V"), (0, .fieldref 8 9), (0, .class_ 10), (0, .nameAndType 11 12), (0, u "com/example/muster/muster/select/Strategy"), (0, u "GREEDY"), (0, u "Lcom/example/muster/muster/select/Strategy;"), (0, .fieldref 8 14), (0, .nameAndType 15 12), (0, u "ENUMERATED"), (0, .fieldref 8 17), (0, .nameAndType 18 12), (0, u "RANDOM"), (0, .fieldref 8 20), (0, .nameAndType 21 12), (0, u "CHEAPEST"), (0, .methodref 8 23), (0, .nameAndType 24 25), (0, u "seeded"), (0, u "()Z"), (0, .class_ 27), (0, u "com/example/muster/muster/select/StrategySeededPinLaw"), (2, u "law"), (0, u "(I)Z")] 3

def k1m0 : Method := { name := "<init>", desc := "()V", sig := { parameters := [], returnType := none }, accessFlags := 2, code := none }
def k1c1 : Code := { maxStack := 2, maxLocals := 4, code := code, exceptionTable := #[], attributes := #[] }
def k1m1 : Method := { name := "law", desc := "(I)Z", sig := { parameters := [.int], returnType := some .boolean }, accessFlags := 9, code := some k1c1 }
/-- com/example/muster/muster/select/StrategySeededPinLaw -/
def k1 : Class := { plain "com/example/muster/muster/select/StrategySeededPinLaw" (some 0) with
  accessFlags := 49
  interfaces := #[]
  cf := some (fileOf pool1 26 #[] #[{ accessFlags := 2, nameIndex := 5, descriptorIndex := 6, attributes := #[] }, { accessFlags := 9, nameIndex := 30, descriptorIndex := 31, attributes := #[] }] 49 2 #[] #[])
  fields := #[]
  methods := #[k1m0, k1m1]
  instanceTypes := #[]
  staticTypes := #[]
  resolved := Array.replicate 35 none
  statics := none }

def pool2 : Array CpInfo := pool [(1, .class_ 2), (0, u "java/lang/constant/Constable"), (0, .class_ 4), (0, u "java/lang/Object")] 6

/-- java/lang/constant/Constable -/
def k2 : Class := { plain "java/lang/constant/Constable" (some 0) with
  accessFlags := 1537
  interfaces := #[]
  cf := some (fileOf pool2 1 #[] #[] 1537 3 #[] #[])
  fields := #[]
  methods := #[]
  instanceTypes := #[]
  staticTypes := #[]
  resolved := Array.replicate 11 none
  statics := none }

def pool3 : Array CpInfo := pool [(1, .class_ 2), (0, u "java/lang/Comparable"), (0, .class_ 4), (0, u "java/lang/Object")] 7

/-- java/lang/Comparable -/
def k3 : Class := { plain "java/lang/Comparable" (some 0) with
  accessFlags := 1537
  interfaces := #[]
  cf := some (fileOf pool3 1 #[] #[] 1537 3 #[] #[])
  fields := #[]
  methods := #[]
  instanceTypes := #[]
  staticTypes := #[]
  resolved := Array.replicate 12 none
  statics := none }

def pool4 : Array CpInfo := pool [(1, .class_ 2), (0, u "java/io/Serializable"), (0, .class_ 4), (0, u "java/lang/Object")] 2

/-- java/io/Serializable -/
def k4 : Class := { plain "java/io/Serializable" (some 0) with
  accessFlags := 1537
  interfaces := #[]
  cf := some (fileOf pool4 1 #[] #[] 1537 3 #[] #[])
  fields := #[]
  methods := #[]
  instanceTypes := #[]
  staticTypes := #[]
  resolved := Array.replicate 7 none
  statics := none }

def pool5 : Array CpInfo := pool [(2, .class_ 4), (1, u "java/lang/Enum"), (0, u "name"), (0, u "Ljava/lang/String;"), (2, u "ordinal"), (0, u "I"), (1, .class_ 14), (1, u "java/lang/Object"), (4, u "hash"), (86, .class_ 108), (1, u "java/lang/Enum$EnumDesc"), (2, .class_ 112), (0, u "java/lang/constant/Constable"), (0, .class_ 114), (0, u "java/lang/Comparable"), (0, .class_ 116), (0, u "java/io/Serializable")] 87

/-- java/lang/Enum -/
def k5 : Class := { plain "java/lang/Enum" (some 0) with
  accessFlags := 1057
  interfaces := #[2, 3, 4]
  cf := some (fileOf pool5 2 #[.nestMembers #[106]] #[] 1057 12 #[111, 113, 115] #[{ accessFlags := 18, nameIndex := 5, descriptorIndex := 6, attributes := #[] }, { accessFlags := 18, nameIndex := 9, descriptorIndex := 10, attributes := #[] }, { accessFlags := 2, nameIndex := 19, descriptorIndex := 10, attributes := #[] }])
  fields := #[{ name := "name", type := (.object "java/lang/String"), accessFlags := 18, slot := 0, constantValue := 0 }, { name := "ordinal", type := .int, accessFlags := 18, slot := 1, constantValue := 0 }, { name := "hash", type := .int, accessFlags := 2, slot := 2, constantValue := 0 }]
  methods := #[]
  instanceTypes := #[(.object "java/lang/String"), .int, .int]
  staticTypes := #[]
  resolved := Array.replicate 204 none
  statics := none }

def pool6 : Array CpInfo := pool [(1, .class_ 2), (0, u "com/example/muster/muster/select/Strategy"), (2, u "GREEDY"), (0, u "Lcom/example/muster/muster/select/Strategy;"), (2, u "ENUMERATED"), (0, .fieldref 1 11), (0, .nameAndType 12 6), (0, u "RANDOM"), (2, u "CHEAPEST"), (2, u "$VALUES"), (0, u "[Lcom/example/muster/muster/select/Strategy;"), (6, .class_ 28), (1, u "java/lang/Enum"), (100, u "seeded"), (0, u "()Z")] 23

def k6c0 : Code := { maxStack := 2, maxLocals := 1, code := prog_39_method_6_code, exceptionTable := #[], attributes := #[] }
def k6m0 : Method := { name := "seeded", desc := "()Z", sig := { parameters := [], returnType := some .boolean }, accessFlags := 1, code := some k6c0 }
/-- com/example/muster/muster/select/Strategy -/
def k6 : Class := { plain "com/example/muster/muster/select/Strategy" (some 5) with
  accessFlags := 16433
  interfaces := #[]
  cf := some (fileOf pool6 1 #[] #[{ accessFlags := 1, nameIndex := 129, descriptorIndex := 130, attributes := #[] }] 16433 26 #[] #[{ accessFlags := 16409, nameIndex := 5, descriptorIndex := 6, attributes := #[] }, { accessFlags := 16409, nameIndex := 9, descriptorIndex := 6, attributes := #[] }, { accessFlags := 16409, nameIndex := 12, descriptorIndex := 6, attributes := #[] }, { accessFlags := 16409, nameIndex := 15, descriptorIndex := 6, attributes := #[] }, { accessFlags := 4122, nameIndex := 18, descriptorIndex := 19, attributes := #[] }])
  fields := #[{ name := "GREEDY", type := (.object "com/example/muster/muster/select/Strategy"), accessFlags := 16409, slot := 0, constantValue := 0 }, { name := "ENUMERATED", type := (.object "com/example/muster/muster/select/Strategy"), accessFlags := 16409, slot := 1, constantValue := 0 }, { name := "RANDOM", type := (.object "com/example/muster/muster/select/Strategy"), accessFlags := 16409, slot := 2, constantValue := 0 }, { name := "CHEAPEST", type := (.object "com/example/muster/muster/select/Strategy"), accessFlags := 16409, slot := 3, constantValue := 0 }, { name := "$VALUES", type := (.array (.object "com/example/muster/muster/select/Strategy")), accessFlags := 4122, slot := 4, constantValue := 0 }]
  methods := #[k6m0]
  instanceTypes := #[(.object "java/lang/String"), .int, .int]
  staticTypes := #[(.object "com/example/muster/muster/select/Strategy"), (.object "com/example/muster/muster/select/Strategy"), (.object "com/example/muster/muster/select/Strategy"), (.object "com/example/muster/muster/select/Strategy"), (.array (.object "com/example/muster/muster/select/Strategy"))]
  resolved := Array.replicate 154 none
  statics := some 0 }

def pool7 : Array CpInfo := pool [(1, u "java/lang/Cloneable"), (0, .class_ 1), (0, u "java/lang/Object"), (0, .class_ 3)] 3

/-- java/lang/Cloneable -/
def k7 : Class := { plain "java/lang/Cloneable" (some 0) with
  accessFlags := 1537
  interfaces := #[]
  cf := some (fileOf pool7 2 #[] #[] 1537 4 #[] #[])
  fields := #[]
  methods := #[]
  instanceTypes := #[]
  staticTypes := #[]
  resolved := Array.replicate 8 none
  statics := none }

/-- the primitive byte -/
def k8 : Class := { plain "byte" none with kind := .primitive 'B', accessFlags := 0x411 }
/-- [B -/
def k9 : Class := { plain "[B" (some 0) with kind := .array 8 .byte, interfaces := #[7, 4], accessFlags := 1041 }

/-- the primitive int -/
def k10 : Class := { plain "int" none with kind := .primitive 'I', accessFlags := 0x411 }
/-- [I -/
def k11 : Class := { plain "[I" (some 0) with kind := .array 10 .int, interfaces := #[7, 4], accessFlags := 1041 }

def heap : Heap := #[{ cls := 6, slots := #[.ref 1, .ref 2, .ref 3, .ref 4, .null], vm := .statics 6 },
  { cls := 6, slots := #[.null, .int 0, .int 0], vm := .none },
  { cls := 6, slots := #[.null, .int 1, .int 0], vm := .none },
  { cls := 6, slots := #[.null, .int 2, .int 0], vm := .none },
  { cls := 6, slots := #[.null, .int 3, .int 0], vm := .none }]
def classes : Array Class := #[k0, k1, k2, k3, k4, k5, k6, k7, k8, k9, k10, k11]
def interned : List (Array UInt16 × Addr) := []
def slotsUsed : Nat := 17
def theMethod : MethodId := ⟨1, 1⟩
def args0 : Array Value := #[.int 5]
def aboutOver (below : List Frame) : State where
  vm := { classes := classes, interned := interned.toArray }
  heap := heap
  slotsUsed := slotsUsed
  threads := #[{ frames := .invoking theMethod args0 :: below }]
def below0 : List Frame := [.native { method := ⟨0, 0⟩, args := #[] }]
def about1 : State := aboutOver below0
def p0 : Program := .bare "" "" ""
def e0 : Env := launch0.env 0 0 0
theorem w_frames : about1.frames = Frame.invoking theMethod args0 :: below0 := rfl
set_option maxRecDepth 65536 in
theorem w_args : argsFit about1.vm theMethod args0 = true := by decide +kernel
set_option maxRecDepth 65536 in
theorem w_heap : heapFits about1 = true := by decide +kernel
set_option maxRecDepth 65536 in
theorem w_runnable : about1.curStatus? = some .runnable := by decide +kernel
set_option maxRecDepth 65536 in
theorem w_alone : about1.alone = true := by decide +kernel
set_option maxRecDepth 65536 in
theorem w_named : about1.methodNamed? x = some theMethod := by decide +kernel
set_option maxRecDepth 65536 in
theorem w_hears : about1.hears theMethod below0 = true := by decide +kernel
set_option maxRecDepth 65536 in
theorem w_ripe : about1.ripe theMethod args0 below0 = true := by decide +kernel
theorem w_running : about1.status = .running := rfl
set_option maxRecDepth 65536 in
theorem w_room : about1.hasRoom e0.platform room_1 = true :=
  launch0.hasRoom_least _ room_1 (by decide +kernel) (by decide +kernel) (by decide +kernel) (by decide +kernel) (by decide +kernel) (by decide +kernel)
theorem allAtoms_all (ts : List Jvm.Cond) (a : Array Jvm.Value) (st : Jvm.State) : (allAtoms ts).before a st = ts.all (fun c => c.before a st) := by
  induction ts with
  | nil => rfl
  | cons c t ih =>
    show (Jvm.Cond.and c (allAtoms t)).before a st = _
    rw [Jvm.Cond.before_and, ih, List.all_cons]
def words1 : List Jvm.Cond := Jvm.Cond.code x code maxLocals ret :: tables_1
/-- a 'code' word, met by the world's own term for the bytes: nothing is compared byte by byte -/
theorem code_word {y : MethodName} {bytes : ByteArray} {mx : Nat} {rt : Option FieldType} {a : Array Value} {s : State} {m : MethodId} {meth : Method} {c : Code} (h1 : s.methodNamed? y = some m) (h2 : s.vm.method? m = some meth) (h3 : meth.code = some c) (h4 : c.code = bytes)
    (h5 : (c.maxLocals == mx && c.exceptionTable.isEmpty && decide (c.maxStack ≤ mostOperands) && decide (meth.sig.returnType = rt) && !meth.locks && decide (parseMethodDescriptor y.desc = some meth.sig)) = true) : (Jvm.Cond.code y bytes mx rt).before a s = true := by
  simp only [Bool.and_eq_true, beq_iff_eq, Bool.not_eq_true', decide_eq_true_eq] at h5
  obtain ⟨⟨⟨⟨⟨g1, g2⟩, g3⟩, g4⟩, g5⟩, g6⟩ := h5
  simp [Cond.before, Cond.holds, Cond.value, h1, h2, h3, h4, g1, g2, g3, g4, g5, g6]
def isCode : Jvm.Cond → Bool
  | .code _ _ _ _ => true
  | _ => false
theorem all_split {L : List Jvm.Cond} {P : Jvm.Cond → Bool} (h1 : L.all (fun c => isCode c || P c) = true) (h2 : ∀ c ∈ L.filter isCode, P c = true) : L.all P = true := by
  refine List.all_eq_true.mpr fun c hc => ?_
  have h := List.all_eq_true.mp h1 c hc
  rcases Bool.eq_false_or_eq_true (isCode c) with hi | hi
  · exact h2 c (List.mem_filter.mpr ⟨hc, hi⟩)
  · simpa [hi] using h
set_option maxRecDepth 65536 in
theorem w_c0 : (Jvm.Cond.code x code maxLocals ret).before args0 about1 = true := code_word (m := ⟨1, 1⟩) (meth := k1m1) (c := k1c1) (by decide +kernel) rfl rfl rfl (by decide +kernel)
set_option maxRecDepth 65536 in
theorem w_c1 : (Jvm.Cond.code ({ cls := "com/example/muster/muster/select/Strategy", name := "seeded", desc := "()Z" } : Jvm.MethodName) prog_39_method_6_code (1 : Nat) (Option.some Jvm.ClassFile.FieldType.boolean)).before args0 about1 = true := code_word (m := ⟨6, 0⟩) (meth := k6m0) (c := k6c0) (by decide +kernel) rfl rfl rfl (by decide +kernel)
def codes1 : List Jvm.Cond := [Jvm.Cond.code x code maxLocals ret, Jvm.Cond.code ({ cls := "com/example/muster/muster/select/Strategy", name := "seeded", desc := "()Z" } : Jvm.MethodName) prog_39_method_6_code (1 : Nat) (Option.some Jvm.ClassFile.FieldType.boolean)]
set_option maxRecDepth 65536 in
theorem codes_eq : words1.filter isCode = codes1 := rfl
theorem w_codes : ∀ c ∈ words1.filter isCode, c.before args0 about1 = true := by
  rw [codes_eq]
  intro c hc
  simp only [codes1, List.mem_cons, List.not_mem_nil, or_false] at hc
  rcases hc with rfl | rfl
  · exact w_c0
  · exact w_c1
set_option maxRecDepth 65536 in
theorem w_t1 : words1.all (fun c => isCode c || c.before args0 about1) = true := by decide +kernel
theorem w_tables : (allAtoms (Jvm.Cond.code x code maxLocals ret :: tables_1)).before args0 about1 = true := by
  rw [allAtoms_all]
  show words1.all (fun c => c.before args0 about1) = true
  refine all_split ?_ w_codes
  rw [w_t1]
set_option maxRecDepth 65536 in
theorem w_case : (Jvm.Cond.and given_1 narrow_1).before args0 about1 = true := by decide +kernel
theorem w_applies : (headSpec (Jvm.Cond.code x code maxLocals ret :: tables_1) room_1).applies x e0.platform about1 = true :=
  (Spec.applies_iff w_frames).mpr ⟨w_running, w_runnable, w_alone, w_named, w_hears, w_ripe, w_room, w_tables⟩
theorem atStart : AtStart classFile x code maxLocals ret World_1 tables_1 room_1 Calls_1 rest_1 Pre_1 launch0 p0 e0 about1 theMethod args0 below0 :=
  ⟨lists_1, trivial, launch0.admits_env _ _ _, launch0.least_env, fairChoices_fair.cas, fairChoices_fair.clock, w_frames, w_args, w_heap, w_applies, trivial, trivial, w_case⟩
end start1
theorem witness_1 : WitnessClaimed_1 := ⟨start1.p0, start1.e0, start1.about1, start1.theMethod, start1.args0, start1.below0, start1.atStart⟩
end Jvm.Pilot.@@N@@
