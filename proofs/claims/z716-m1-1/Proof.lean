import JvmDerived
import JvmDerived.Pilot.@@N@@Statement
import JvmDerived.Pilot.@@N@@Code
set_option linter.unusedVariables false
set_option linter.unusedSimpArgs false
namespace Jvm.RoadKit
open Sem ClassFile Op Lib Jvm.Stand Jvm.Free Jvm.LawKit
section New
variable {p : Program} {l : Launch} {e : Env} {R : Room} {s : State} {m : MethodId} {args : Array Value} {below : List Frame} {meth : Method} {c : Code} {T : State} {locs : List Loc} {cells slots : Nat}
theorem retI (X : Stand p l e R s m args below meth c T locs cells slots) (hx : p.tables.exec = Jvm.exec) {pc : Nat} {Ls : Array Slot} {z : Int32} {rest : List Value} (hret : meth.sig.returnType = some .int) (hd : decode c.code pc = .ok (.ireturn, 1)) {fs : List Frame}
    (hl : ∀ (f : JFrame) (acts : List Action), f.method = m → f.locked = none → f.entered = [] → (doReturn e (T.setTop f) acts (some (.int z))).1 = T.setFrames fs) : Steps p.tables e below (T.setTop (mkF m pc Ls (.int z :: rest))) (T.setFrames fs) :=
  retOut X hx hret rfl (Or.inl ⟨rfl, Or.inl rfl, z, rfl⟩) hd hl
end New
end Jvm.RoadKit
namespace Jvm.Pilot.@@N@@
open Jvm Jvm.ClassFile Sem Op Lib Jvm.Free Jvm.Stand Jvm.LawKit Jvm.RoadKit Bundle Jvm.Pilot.@@N@@.Jvm.D
section OwnKit
variable {p : Program} {l : Launch} {e : Env} {R : Room} {s s' : State} {m : MethodId} {args : Array Value} {below : List Frame} {meth : Method} {c : Code} {T T' : State} {locs : List Loc} {cells slots : Nat} {g g' : JFrame} {Z : State} {a0 : Array Value} {h : Heap} {Q : Option Value → Heap → List Loc → Prop} {k n : Nat} {E : State → Outcome → State → List Loc → Nat → Nat → Prop}
/-- the run goes on from here to its end, and the end is as Q and the frame E say -/
def Fin (E : State → Outcome → State → List Loc → Nat → Nat → Prop) (p : Program) (e : Env) (below : List Frame) (s : State) (Q : Option Value → Heap → List Loc → Prop) (k n : Nat) (T : State) (g : JFrame) : Prop :=
  ∃ (s₂ : State) (o : Outcome), Steps p.tables e below (T.setTop g) s₂ ∧ s₂.status = .running ∧ Ended s₂ below o ∧ ∃ v L, o = .returned v ∧ Q v s₂.heap L ∧ E s o s₂ L k n
theorem Fin.go (st : ∀ t, Steps p.tables e below (T'.setTop g') t → Steps p.tables e below (T.setTop g) t) (w : Fin E p e below s Q k n T' g') : Fin E p e below s Q k n T g := by
  obtain ⟨s₂, o, h1, r⟩ := w
  exact ⟨s₂, o, st _ h1, r⟩
theorem Fin.came (st : Steps p.tables e below (T.setTop g) (T'.setTop g')) (w : Fin E p e below s Q k n T' g') : Fin E p e below s Q k n T g := by
  obtain ⟨s₂, o, h1, r⟩ := w
  exact ⟨s₂, o, st.trans h1, r⟩
theorem Fin.leaveN (X : Stand p l e R s m args below meth c T locs cells slots) (eT : T.heap = h) (hlk : meth.locks = false) {v : Option Value} (hv : meth.sig.returnType = none → v = none) (hk : cells ≤ k) (hn : slots ≤ n) (hq : Q v h locs)
    (st : ∀ fs, (∀ (f : JFrame) (acts : List Action), f.method = m → f.locked = none → f.entered = [] → (doReturn e (T.setTop f) acts v).1 = T.setFrames fs) → Steps p.tables e below (T.setTop g) (T.setFrames fs)) : Fin FrameEnd p e below s Q k n T g := by
  subst eT
  obtain ⟨fs, hr, hrun, hended, hW, hsame⟩ := X.leave hv hlk
  exact ⟨_, _, st fs hr, hrun, hended, v, locs, rfl, hq, ⟨v, rfl⟩, hW, hsame.mono hk hn⟩
/-- a body's contract: called with these arguments at this heap, it comes back as Q says -/
abbrev ConW (E : State → Outcome → State → List Loc → Nat → Nat → Prop) (l : Launch) (Z : State) (ws : List Jvm.Cond) (y : MethodName) (bytes : ByteArray) (maxL : Nat) (ret : Option FieldType) (rm : Room) (as' : Array Value) (h : Heap) (Q : Option Value → Heap → List Loc → Prop) : Prop :=
  MetFree l y (head1 (Jvm.Cond.code y bytes maxL ret :: ws) rm) (fun a U => a = as' ∧ Z.Warmed39 U.vm ∧ U.heap = h) (fun _ _ _ _ _ => True) (fun _ U o U' => ∃ v L, o = .returned v ∧ Q v U'.heap L ∧ E U o U' L rm.cells rm.slots)
abbrev Con (E : State → Outcome → State → List Loc → Nat → Nat → Prop) (l : Launch) (Z : State) (y : MethodName) (bytes : ByteArray) (maxL : Nat) (ret : Option FieldType) (rm : Room) (as' : Array Value) (h : Heap) (Q : Option Value → Heap → List Loc → Prop) : Prop := ConW E l Z [] y bytes maxL ret rm as' h Q
theorem conOf {ws : List Jvm.Cond} {y : MethodName} {bytes : ByteArray} {maxL : Nat} {ret : Option FieldType} {rm : Room} {as' : Array Value} (hpn : plainFor y = true)
    (body : ∀ (p : Program) (e : Env) (s : State) (m : MethodId) (below : List Frame) (meth : Method) (c : Code) (s₁ : State), Stand p l e rm s m as' below meth c s₁ [] 0 0 → p.tables.exec = Jvm.exec → c.code = bytes → c.maxLocals = maxL → s.vm.findClass y.cls = some m.cls → meth.name = y.name →
      meth.sig.returnType = ret → meth.locks = false → Z.Warmed39 s.vm → s₁.heap = h → Fin E p e below s Q rm.cells rm.slots s₁ (entryFrame m as' maxL)) : ConW E l Z ws y bytes maxL ret rm as' h Q := by
  refine MetFree.of_bodySF hpn hisR ?_
  intro p e s m args below meth c s₁ Bd hml hP hK
  obtain ⟨rfl, hZ, hh⟩ := hP
  exact body p e s m below meth c s₁ (Stand.of_body Bd) Bd.exec Bd.bytes hml (findClass_of_methodNamed Bd.named) (name_of_methodNamed Bd.named Bd.method).1 Bd.returns (BodyLoose.notSynchronized Bd) hZ (by rw [← hh, Bd.state]; rfl)
/-- nothing moved; r is returned -/
abbrev Pure (h0 : Heap) (r : Option Value) : Option Value → Heap → List Loc → Prop := fun v h L => v = r ∧ h = h0 ∧ L = []
theorem nar_refv {v : Value} {t : FieldType} (h : v.isRef = true) (ht : t.isReference = true) : narrow t v = v := by
  rcases ref_cases h with rfl | ⟨a, rfl⟩ <;> cases t <;> first | rfl | (simp [FieldType.isReference] at ht)
theorem fits_refv {v : Value} {t : FieldType} (h : v.isRef = true) (ht : t.isReference = true) : fits t v = true := by
  rcases ref_cases h with rfl | ⟨a, rfl⟩ <;> cases t <;> first | rfl | (simp [FieldType.isReference] at ht)
theorem nar_b8 (x : Int32) : nar .byte ((Int32.toInt8 x).toInt32) = (Int32.toInt8 x).toInt32 := by simp [nar]
theorem nar_c16 (x : Int32) : nar .char ((Int32.toUInt32 x).toUInt16.toUInt32.toInt32) = (Int32.toUInt32 x).toUInt16.toUInt32.toInt32 := by simp only [nar, UInt32.toUInt32_toInt32, UInt16.toUInt16_toUInt32]
section Calls
variable {own : String} {index : Nat} {y z : MethodName} {bytes : ByteArray} {maxL : Nat} {ret : Option FieldType} {rm : Room} {W : Nat} {Qc : Option Value → Heap → List Loc → Prop} {argsL rest : List Value}
theorem callSt (X : Stand p l e R s m args below meth c T locs cells slots) (hx : p.tables.exec = Jvm.exec) (hZ : Z.Warmed39 s.vm) (hown : s.vm.findClass own = some m.cls)
    (w1 : (Jvm.Cond.methodLink own index y).before a0 Z = true) (w2 : (Jvm.Cond.static y).before a0 Z = true) (w3 : (Jvm.Cond.initialized y.cls).before a0 Z = true) (w4 : (Jvm.Cond.code y bytes maxL ret).before a0 Z = true) (hy : y.cls ≠ "java/lang/invoke/MethodHandle" ∧ y.cls ≠ "java/lang/invoke/VarHandle")
    (hC : Con FrameEnd l Z y bytes maxL ret rm argsL.toArray h Qc) (eT : T.heap = h) (hf : rm.frames + 1 ≤ R.frames) (hl : W + (maxL + 11) + rm.locals ≤ R.locals) (hc : cells + rm.cells ≤ R.cells) (hs : slots + rm.slots ≤ R.slots)
    (hg : g.method = m) (hsize : g.locals.size = c.maxLocals) (hlen : ∀ sig, parseMethodDescriptor y.desc = some sig → argsL.length = sig.parameters.length) (hstack : g.stack = argsL.reverse ++ rest) (hW : 2 * g.monitorRoom + (rest.map fun v => v.category).sum ≤ W) (hdg : decode c.code g.pc = .ok (.invokestatic index, 3)) :
    ∃ (v : Option Value) (T' : State) (L : List Loc), Stand p l e R s m args below meth c T' (locs ++ L) (cells + rm.cells) (slots + rm.slots) ∧ Qc v T'.heap L ∧ ∀ target, Steps p.tables e below (T'.setTop { g with pc := g.pc + 3, stack := v.toList ++ rest }) target → Steps p.tables e below (T.setTop g) target := by
  obtain ⟨v, _, ⟨T2, L2, k2, n2⟩, -, X2, ⟨Lc2, hQ2, l2, y2, z2⟩, st2⟩ := Jvm.LawKit.callS X hx hown (mvT hZ w1) (mvT hZ w2) (mvT hZ w3) (mvT hZ w4) hy (backOf (W := W) hC hZ w4 w3 hf hl) hg hsize hlen hstack hW hdg (fun _ _ => ⟨rfl, eT, hc, hs⟩)
  dsimp only [Pt.U, Pt.locs, Pt.cells, Pt.slots] at X2 l2 y2 z2 st2 hQ2
  subst l2 y2 z2
  exact ⟨v, T2, Lc2, X2, hQ2, st2⟩
theorem callCt (X : Stand p l e R s m args below meth c T locs cells slots) (hx : p.tables.exec = Jvm.exec) (hZ : Z.Warmed39 s.vm) (hy1 : y.name = "<init>") (hown : s.vm.findClass own = some m.cls)
    (w1 : (Jvm.Cond.methodLink own index y).before a0 Z = true) (w2 : (Jvm.Cond.instanceMethod y).before a0 Z = true) (w3 : (Jvm.Cond.initialized y.cls).before a0 Z = true) (w4 : (Jvm.Cond.code y bytes maxL none).before a0 Z = true) (hy : y.cls ≠ "java/lang/invoke/MethodHandle" ∧ y.cls ≠ "java/lang/invoke/VarHandle")
    {a : Addr} (hC : Con FrameEnd l Z y bytes maxL none rm (.ref a :: argsL).toArray h Qc) (eT : T.heap = h) (hf : rm.frames + 1 ≤ R.frames) (hl : W + (maxL + 11) + rm.locals ≤ R.locals) (hc : cells + rm.cells ≤ R.cells) (hs : slots + rm.slots ≤ R.slots)
    (hg : g.method = m) (hsize : g.locals.size = c.maxLocals) (hlen : ∀ sig, parseMethodDescriptor y.desc = some sig → argsL.length = sig.parameters.length) (hstack : g.stack = argsL.reverse ++ .ref a :: rest) (hW : 2 * g.monitorRoom + (rest.map fun v => v.category).sum ≤ W) (hdg : decode c.code g.pc = .ok (.invokespecial index, 3)) :
    ∃ (v : Option Value) (T' : State) (L : List Loc), Stand p l e R s m args below meth c T' (locs ++ L) (cells + rm.cells) (slots + rm.slots) ∧ Qc v T'.heap L ∧ ∀ target, Steps p.tables e below (T'.setTop { g with pc := g.pc + 3, stack := v.toList ++ rest }) target → Steps p.tables e below (T.setTop g) target := by
  obtain ⟨v, _, ⟨T2, L2, k2, n2⟩, -, X2, ⟨Lc2, hQ2, l2, y2, z2⟩, st2⟩ := X.specialBack hx hy1 hown (mvT hZ w1) (mvT hZ w2) (mvT hZ w4) hy (backOf (W := W) hC hZ w4 w3 hf hl) hg hsize (Steps.refl _) hlen hstack hW hdg (fun _ _ => ⟨rfl, eT, hc, hs⟩)
  dsimp only [Pt.U, Pt.locs, Pt.cells, Pt.slots] at X2 l2 y2 z2 st2 hQ2
  subst l2 y2 z2
  exact ⟨v, T2, Lc2, X2, hQ2, fun _ k => st2.trans k⟩
theorem callVt {C : String} (X : Stand p l e R s m args below meth c T locs cells slots) (hx : p.tables.exec = Jvm.exec) (hZ : Z.Warmed39 s.vm) (hown : s.vm.findClass own = some m.cls)
    (w1 : (Jvm.Cond.methodLink own index y).before a0 Z = true) (w2 : (Jvm.Cond.declares y).before a0 Z = true) (w3 : (Jvm.Cond.selects C y y).before a0 Z = true) (w4 : (Jvm.Cond.instanceMethod y).before a0 Z = true) (w5 : (Jvm.Cond.initialized y.cls).before a0 Z = true) (w6 : (Jvm.Cond.code y bytes maxL ret).before a0 Z = true)
    (hy : y.cls ≠ "java/lang/invoke/MethodHandle" ∧ y.cls ≠ "java/lang/invoke/VarHandle")
    {a : Addr} (hC : Con FrameEnd l Z y bytes maxL ret rm (.ref a :: argsL).toArray h Qc) (eT : T.heap = h) (EA : Exa Z h a C) (hf : rm.frames + 1 ≤ R.frames) (hl : W + (maxL + 11) + rm.locals ≤ R.locals) (hc : cells + rm.cells ≤ R.cells) (hs : slots + rm.slots ≤ R.slots)
    (hg : g.method = m) (hsize : g.locals.size = c.maxLocals) (hlen : ∀ sig, parseMethodDescriptor y.desc = some sig → argsL.length = sig.parameters.length) (hstack : g.stack = argsL.reverse ++ .ref a :: rest) (hW : 2 * g.monitorRoom + (rest.map fun v => v.category).sum ≤ W) (hdg : decode c.code g.pc = .ok (.invokevirtual index, 3)) :
    ∃ (v : Option Value) (T' : State) (L : List Loc), Stand p l e R s m args below meth c T' (locs ++ L) (cells + rm.cells) (slots + rm.slots) ∧ Qc v T'.heap L ∧ ∀ target, Steps p.tables e below (T'.setTop { g with pc := g.pc + 3, stack := v.toList ++ rest }) target → Steps p.tables e below (T.setTop g) target := by
  obtain ⟨cq, kq, qa, qb, qc⟩ := isOf hZ eT EA
  obtain ⟨v, _, ⟨T2, L2, k2, n2⟩, -, X2, ⟨Lc2, hQ2, l2, y2, z2⟩, st2⟩ := X.virtualBack hx hown (mvT hZ w1) (mvT hZ w2) (notFace_of_selects (args := #[]) (mvT hZ w3)) (mvT hZ w3) (mvT hZ w4) hy (backOf (W := W) hC hZ w6 w5 hf hl) qa qc hg hsize (Steps.refl _) hlen hstack hW hdg (fun _ _ => ⟨rfl, eT, hc, hs⟩)
  dsimp only [Pt.U, Pt.locs, Pt.cells, Pt.slots] at X2 l2 y2 z2 st2 hQ2
  subst l2 y2 z2
  exact ⟨v, T2, Lc2, X2, hQ2, fun _ k => st2.trans k⟩
theorem callVUt {C owner : String} (X : Stand p l e R s m args below meth c T locs cells slots) (hx : p.tables.exec = Jvm.exec) (hZ : Z.Warmed39 s.vm) (hown : s.vm.findClass own = some m.cls)
    (w1 : (Jvm.Cond.methodLink own index y).before a0 Z = true) (w1' : (Jvm.Cond.sameMethod y.cls owner y.name y.desc).before a0 Z = true) (w2 : (Jvm.Cond.declares ⟨owner, y.name, y.desc⟩).before a0 Z = true) (w3 : (Jvm.Cond.selects C y z).before a0 Z = true) (w4 : (Jvm.Cond.instanceMethod z).before a0 Z = true) (w5 : (Jvm.Cond.initialized z.cls).before a0 Z = true) (w6 : (Jvm.Cond.code z bytes maxL ret).before a0 Z = true)
    (hy : owner ≠ "java/lang/invoke/MethodHandle" ∧ owner ≠ "java/lang/invoke/VarHandle")
    {a : Addr} (hC : Con FrameEnd l Z z bytes maxL ret rm (.ref a :: argsL).toArray h Qc) (eT : T.heap = h) (EA : Exa Z h a C) (hf : rm.frames + 1 ≤ R.frames) (hl : W + (maxL + 11) + rm.locals ≤ R.locals) (hc : cells + rm.cells ≤ R.cells) (hs : slots + rm.slots ≤ R.slots)
    (hg : g.method = m) (hsize : g.locals.size = c.maxLocals) (hlen : ∀ sig, parseMethodDescriptor y.desc = some sig → argsL.length = sig.parameters.length) (hstack : g.stack = argsL.reverse ++ .ref a :: rest) (hW : 2 * g.monitorRoom + (rest.map fun v => v.category).sum ≤ W) (hdg : decode c.code g.pc = .ok (.invokevirtual index, 3)) :
    ∃ (v : Option Value) (T' : State) (L : List Loc), Stand p l e R s m args below meth c T' (locs ++ L) (cells + rm.cells) (slots + rm.slots) ∧ Qc v T'.heap L ∧ ∀ target, Steps p.tables e below (T'.setTop { g with pc := g.pc + 3, stack := v.toList ++ rest }) target → Steps p.tables e below (T.setTop g) target := by
  obtain ⟨cq, kq, qa, qb, qc⟩ := isOf hZ eT EA
  obtain ⟨v, _, ⟨T2, L2, k2, n2⟩, -, X2, ⟨Lc2, hQ2, l2, y2, z2⟩, st2⟩ := X.virtualBackUp hx hown (mvT hZ w1) (mvT hZ w1') (mvT hZ w2) hy (mvT hZ w3) (mvT hZ w4) (backOf (W := W) hC hZ w6 w5 hf hl) qa qc hg hsize (Steps.refl _) hlen hstack hW hdg (fun _ _ => ⟨rfl, eT, hc, hs⟩)
  dsimp only [Pt.U, Pt.locs, Pt.cells, Pt.slots] at X2 l2 y2 z2 st2 hQ2
  subst l2 y2 z2
  exact ⟨v, T2, Lc2, X2, hQ2, fun _ k => st2.trans k⟩
end Calls
end OwnKit
theorem w_0 : (Jvm.Cond.methodLink "com/example/spool/spool/model/EndpointDisabledByPinLaw" (8 : Nat) ({ cls := "java/lang/Integer", name := "valueOf", desc := "(I)Ljava/lang/Integer;" } : Jvm.MethodName)) ∈ tables_1 := List.mem_of_getElem? (i := 0) rfl
theorem w_1 : (Jvm.Cond.static ({ cls := "java/lang/Integer", name := "valueOf", desc := "(I)Ljava/lang/Integer;" } : Jvm.MethodName)) ∈ tables_1 := List.mem_of_getElem? (i := 1) rfl
theorem w_2 : (Jvm.Cond.initialized "java/lang/Integer") ∈ tables_1 := List.mem_of_getElem? (i := 2) rfl
theorem w_3 : (Jvm.Cond.code ({ cls := "java/lang/Integer", name := "valueOf", desc := "(I)Ljava/lang/Integer;" } : Jvm.MethodName) jdk_33_method_22_code (1 : Nat) (Option.some (Jvm.ClassFile.FieldType.object "java/lang/Integer"))) ∈ tables_1 := List.mem_of_getElem? (i := 3) rfl
theorem w_4 : (Jvm.Cond.fieldLink "java/lang/Integer" (191 : Nat) "java/lang/Integer$IntegerCache" "high" "I") ∈ tables_1 := List.mem_of_getElem? (i := 4) rfl
theorem w_5 : (Jvm.Cond.initialized "java/lang/Integer$IntegerCache") ∈ tables_1 := List.mem_of_getElem? (i := 5) rfl
theorem w_6 : (Jvm.Cond.classLink "java/lang/Integer" (1 : Nat) "java/lang/Integer") ∈ tables_1 := List.mem_of_getElem? (i := 6) rfl
theorem w_7 : (Jvm.Cond.instantiable "java/lang/Integer" (1 : Nat)) ∈ tables_1 := List.mem_of_getElem? (i := 7) rfl
theorem w_8 : (Jvm.Cond.methodLink "java/lang/Integer" (199 : Nat) ({ cls := "java/lang/Integer", name := "<init>", desc := "(I)V" } : Jvm.MethodName)) ∈ tables_1 := List.mem_of_getElem? (i := 8) rfl
theorem w_9 : (Jvm.Cond.instanceMethod ({ cls := "java/lang/Integer", name := "<init>", desc := "(I)V" } : Jvm.MethodName)) ∈ tables_1 := List.mem_of_getElem? (i := 9) rfl
theorem w_11 : (Jvm.Cond.code ({ cls := "java/lang/Integer", name := "<init>", desc := "(I)V" } : Jvm.MethodName) jdk_33_method_23_code (2 : Nat) (Option.none : Option Jvm.ClassFile.FieldType)) ∈ tables_1 := List.mem_of_getElem? (i := 11) rfl
theorem w_12 : (Jvm.Cond.methodLink "java/lang/Integer" (202 : Nat) ({ cls := "java/lang/Number", name := "<init>", desc := "()V" } : Jvm.MethodName)) ∈ tables_1 := List.mem_of_getElem? (i := 12) rfl
theorem w_13 : (Jvm.Cond.instanceMethod ({ cls := "java/lang/Number", name := "<init>", desc := "()V" } : Jvm.MethodName)) ∈ tables_1 := List.mem_of_getElem? (i := 13) rfl
theorem w_16 : (Jvm.Cond.initialized "java/lang/Number") ∈ tables_1 := List.mem_of_getElem? (i := 16) rfl
theorem w_17 : (Jvm.Cond.code ({ cls := "java/lang/Number", name := "<init>", desc := "()V" } : Jvm.MethodName) jdk_18_method_1_code (1 : Nat) (Option.none : Option Jvm.ClassFile.FieldType)) ∈ tables_1 := List.mem_of_getElem? (i := 17) rfl
theorem w_18 : (Jvm.Cond.methodLink "java/lang/Number" (1 : Nat) ({ cls := "java/lang/Object", name := "<init>", desc := "()V" } : Jvm.MethodName)) ∈ tables_1 := List.mem_of_getElem? (i := 18) rfl
theorem w_19 : (Jvm.Cond.instanceMethod ({ cls := "java/lang/Object", name := "<init>", desc := "()V" } : Jvm.MethodName)) ∈ tables_1 := List.mem_of_getElem? (i := 19) rfl
theorem w_20 : (Jvm.Cond.code ({ cls := "java/lang/Object", name := "<init>", desc := "()V" } : Jvm.MethodName) object_method_1_code (1 : Nat) (Option.none : Option Jvm.ClassFile.FieldType)) ∈ tables_1 := List.mem_of_getElem? (i := 20) rfl
theorem w_21 : (Jvm.Cond.fieldLink "java/lang/Integer" (205 : Nat) "java/lang/Integer" "value" "I") ∈ tables_1 := List.mem_of_getElem? (i := 21) rfl
theorem w_22 : (Jvm.Cond.laysFinal "java/lang/Integer" "java/lang/Integer" "value" "I") ∈ tables_1 := List.mem_of_getElem? (i := 22) rfl
theorem w_23 : (Jvm.Cond.methodLink "com/example/spool/spool/model/EndpointDisabledByPinLaw" (14 : Nat) ({ cls := "com/example/spool/spool/model/Endpoint", name := "disabledBy", desc := "(Ljava/lang/Integer;I)Lcom/example/spool/spool/model/DisabledReason;" } : Jvm.MethodName)) ∈ tables_1 := List.mem_of_getElem? (i := 23) rfl
theorem w_24 : (Jvm.Cond.static ({ cls := "com/example/spool/spool/model/Endpoint", name := "disabledBy", desc := "(Ljava/lang/Integer;I)Lcom/example/spool/spool/model/DisabledReason;" } : Jvm.MethodName)) ∈ tables_1 := List.mem_of_getElem? (i := 24) rfl
theorem w_25 : (Jvm.Cond.initialized "com/example/spool/spool/model/Endpoint") ∈ tables_1 := List.mem_of_getElem? (i := 25) rfl
theorem w_26 : (Jvm.Cond.code ({ cls := "com/example/spool/spool/model/Endpoint", name := "disabledBy", desc := "(Ljava/lang/Integer;I)Lcom/example/spool/spool/model/DisabledReason;" } : Jvm.MethodName) prog_8_method_1_code (2 : Nat) (Option.some (Jvm.ClassFile.FieldType.object "com/example/spool/spool/model/DisabledReason"))) ∈ tables_1 := List.mem_of_getElem? (i := 26) rfl
theorem w_27 : (Jvm.Cond.methodLink "com/example/spool/spool/model/Endpoint" (1 : Nat) ({ cls := "java/lang/Integer", name := "intValue", desc := "()I" } : Jvm.MethodName)) ∈ tables_1 := List.mem_of_getElem? (i := 27) rfl
theorem w_28 : (Jvm.Cond.declares ({ cls := "java/lang/Integer", name := "intValue", desc := "()I" } : Jvm.MethodName)) ∈ tables_1 := List.mem_of_getElem? (i := 28) rfl
theorem w_29 : (Jvm.Cond.instanceMethod ({ cls := "java/lang/Integer", name := "intValue", desc := "()I" } : Jvm.MethodName)) ∈ tables_1 := List.mem_of_getElem? (i := 29) rfl
theorem w_30 : (Jvm.Cond.selects "java/lang/Integer" ({ cls := "java/lang/Integer", name := "intValue", desc := "()I" } : Jvm.MethodName) ({ cls := "java/lang/Integer", name := "intValue", desc := "()I" } : Jvm.MethodName)) ∈ tables_1 := List.mem_of_getElem? (i := 30) rfl
theorem w_31 : (Jvm.Cond.code ({ cls := "java/lang/Integer", name := "intValue", desc := "()I" } : Jvm.MethodName) jdk_33_method_27_code (1 : Nat) (Option.some Jvm.ClassFile.FieldType.int)) ∈ tables_1 := List.mem_of_getElem? (i := 31) rfl
theorem w_32 : (Jvm.Cond.fieldLink "com/example/spool/spool/model/Endpoint" (9 : Nat) "com/example/spool/spool/model/DisabledReason" "GONE" "Lcom/example/spool/spool/model/DisabledReason;") ∈ tables_1 := List.mem_of_getElem? (i := 32) rfl
theorem w_33 : (Jvm.Cond.initialized "com/example/spool/spool/model/DisabledReason") ∈ tables_1 := List.mem_of_getElem? (i := 33) rfl
theorem w_34 : (Jvm.Cond.laysStatic "com/example/spool/spool/model/DisabledReason" "GONE" "Lcom/example/spool/spool/model/DisabledReason;") ∈ tables_1 := List.mem_of_getElem? (i := 34) rfl
theorem w_35 : (Jvm.Cond.fieldLink "com/example/spool/spool/model/EndpointDisabledByPinLaw" (20 : Nat) "com/example/spool/spool/model/DisabledReason" "GONE" "Lcom/example/spool/spool/model/DisabledReason;") ∈ tables_1 := List.mem_of_getElem? (i := 35) rfl
theorem w_36 : (Jvm.Cond.fieldLink "com/example/spool/spool/model/Endpoint" (15 : Nat) "com/example/spool/spool/model/DisabledReason" "FAILING" "Lcom/example/spool/spool/model/DisabledReason;") ∈ tables_1 := List.mem_of_getElem? (i := 36) rfl
theorem w_37 : (Jvm.Cond.laysStatic "com/example/spool/spool/model/DisabledReason" "FAILING" "Lcom/example/spool/spool/model/DisabledReason;") ∈ tables_1 := List.mem_of_getElem? (i := 37) rfl
theorem w_38 : (Jvm.Cond.fieldLink "com/example/spool/spool/model/EndpointDisabledByPinLaw" (26 : Nat) "com/example/spool/spool/model/DisabledReason" "FAILING" "Lcom/example/spool/spool/model/DisabledReason;") ∈ tables_1 := List.mem_of_getElem? (i := 38) rfl
theorem w_39 : (Jvm.Cond.constant "com/example/spool/spool/model/EndpointDisabledByPinLaw" (7 : Nat) (2147483647 : Int32)) ∈ tables_1 := List.mem_of_getElem? (i := 39) rfl
theorem w_40 : (Jvm.Cond.fieldLink "java/lang/Integer" (195 : Nat) "java/lang/Integer$IntegerCache" "cache" "[Ljava/lang/Integer;") ∈ tables_1 := List.mem_of_getElem? (i := 40) rfl
theorem pn_java_lang_Number : plainName "java/lang/Number" = true := by first | (simp [plainName, overriddenIn]; done) | decide +kernel
theorem d3_0 : decode jdk_18_method_1_code 0 = .ok (.aload_n 0, 1) := by decide +kernel
theorem d3_1 : decode jdk_18_method_1_code 1 = .ok (.invokespecial 1, 3) := by decide +kernel
theorem d3_4 : decode jdk_18_method_1_code 4 = .ok (.return_, 1) := by decide +kernel
theorem pn_java_lang_Integer : plainName "java/lang/Integer" = true := by first | (simp [plainName, overriddenIn]; done) | decide +kernel
theorem d2_0 : decode jdk_33_method_23_code 0 = .ok (.aload_n 0, 1) := by decide +kernel
theorem d2_1 : decode jdk_33_method_23_code 1 = .ok (.invokespecial 202, 3) := by decide +kernel
theorem pd_ocV : parseMethodDescriptor "()V" = some ⟨[], none⟩ := by decide +kernel
theorem d2_4 : decode jdk_33_method_23_code 4 = .ok (.aload_n 0, 1) := by decide +kernel
theorem d2_5 : decode jdk_33_method_23_code 5 = .ok (.iload_n 1, 1) := by decide +kernel
theorem d2_6 : decode jdk_33_method_23_code 6 = .ok (.putfield 205, 3) := by decide +kernel
theorem d2_9 : decode jdk_33_method_23_code 9 = .ok (.return_, 1) := by decide +kernel
theorem d6_0 : decode jdk_33_method_27_code 0 = .ok (.aload_n 0, 1) := by decide +kernel
theorem d6_1 : decode jdk_33_method_27_code 1 = .ok (.getfield 205, 3) := by decide +kernel
theorem d6_4 : decode jdk_33_method_27_code 4 = .ok (.ireturn, 1) := by decide +kernel
theorem d1_0 : decode jdk_33_method_22_code 0 = .ok (.iload_n 0, 1) := by decide +kernel
theorem d1_1 : decode jdk_33_method_22_code 1 = .ok (.bipush (-128), 2) := by decide +kernel
theorem d1_3 : decode jdk_33_method_22_code 3 = .ok (.if_icmp .lt 20, 3) := by decide +kernel
theorem d1_23 : decode jdk_33_method_22_code 23 = .ok (.new 1, 3) := by decide +kernel
theorem d1_26 : decode jdk_33_method_22_code 26 = .ok (.dup, 1) := by decide +kernel
theorem d1_27 : decode jdk_33_method_22_code 27 = .ok (.iload_n 0, 1) := by decide +kernel
theorem d1_28 : decode jdk_33_method_22_code 28 = .ok (.invokespecial 199, 3) := by decide +kernel
theorem pd_oIcV : parseMethodDescriptor "(I)V" = some ⟨[.int], none⟩ := by decide +kernel
theorem d1_31 : decode jdk_33_method_22_code 31 = .ok (.areturn, 1) := by decide +kernel
theorem d1_6 : decode jdk_33_method_22_code 6 = .ok (.iload_n 0, 1) := by decide +kernel
theorem d1_7 : decode jdk_33_method_22_code 7 = .ok (.getstatic 191, 3) := by decide +kernel
theorem d1_10 : decode jdk_33_method_22_code 10 = .ok (.if_icmp .gt 13, 3) := by decide +kernel
theorem d1_13 : decode jdk_33_method_22_code 13 = .ok (.getstatic 195, 3) := by decide +kernel
theorem d1_16 : decode jdk_33_method_22_code 16 = .ok (.iload_n 0, 1) := by decide +kernel
theorem d1_17 : decode jdk_33_method_22_code 17 = .ok (.sipush 128, 3) := by decide +kernel
theorem d1_20 : decode jdk_33_method_22_code 20 = .ok (.iadd, 1) := by decide +kernel
theorem d1_21 : decode jdk_33_method_22_code 21 = .ok (.aaload, 1) := by decide +kernel
theorem d1_22 : decode jdk_33_method_22_code 22 = .ok (.areturn, 1) := by decide +kernel
theorem pn_com_example_spool_spool_model_Endpoint : plainName "com/example/spool/spool/model/Endpoint" = true := by first | (simp [plainName, overriddenIn]; done) | decide +kernel
theorem d5_0 : decode prog_8_method_1_code 0 = .ok (.aload_n 0, 1) := by decide +kernel
theorem d5_1 : decode prog_8_method_1_code 1 = .ok (.ifnull 17, 3) := by decide +kernel
theorem d5_4 : decode prog_8_method_1_code 4 = .ok (.aload_n 0, 1) := by decide +kernel
theorem d5_5 : decode prog_8_method_1_code 5 = .ok (.invokevirtual 1, 3) := by decide +kernel
theorem pd_ocI : parseMethodDescriptor "()I" = some ⟨[], some .int⟩ := by decide +kernel
theorem d5_8 : decode prog_8_method_1_code 8 = .ok (.sipush 410, 3) := by decide +kernel
theorem d5_11 : decode prog_8_method_1_code 11 = .ok (.if_icmp .ne 7, 3) := by decide +kernel
theorem d5_14 : decode prog_8_method_1_code 14 = .ok (.getstatic 9, 3) := by decide +kernel
theorem d5_17 : decode prog_8_method_1_code 17 = .ok (.areturn, 1) := by decide +kernel
theorem d5_18 : decode prog_8_method_1_code 18 = .ok (.iload_n 1, 1) := by decide +kernel
theorem d5_19 : decode prog_8_method_1_code 19 = .ok (.bipush 10, 2) := by decide +kernel
theorem d5_21 : decode prog_8_method_1_code 21 = .ok (.if_icmp .le 9, 3) := by decide +kernel
theorem d5_24 : decode prog_8_method_1_code 24 = .ok (.getstatic 15, 3) := by decide +kernel
theorem d5_27 : decode prog_8_method_1_code 27 = .ok (.goto 4, 3) := by decide +kernel
theorem d5_31 : decode prog_8_method_1_code 31 = .ok (.areturn, 1) := by decide +kernel
theorem d5_30 : decode prog_8_method_1_code 30 = .ok (.aconst_null, 1) := by decide +kernel
theorem pn_com_example_spool_spool_model_EndpointDisabledByPinLaw : plainName "com/example/spool/spool/model/EndpointDisabledByPinLaw" = true := by first | (simp [plainName, overriddenIn]; done) | decide +kernel
theorem pd_oIcLjava_lang_Integer_ : parseMethodDescriptor "(I)Ljava/lang/Integer;" = some ⟨[.int], some (.object "java/lang/Integer")⟩ := by decide +kernel
theorem pd_oLjava_lang_Integer_IcLcom_example_spool_spool_model_DisabledReason_ : parseMethodDescriptor "(Ljava/lang/Integer;I)Lcom/example/spool/spool/model/DisabledReason;" = some ⟨[(.object "java/lang/Integer"), .int], some (.object "com/example/spool/spool/model/DisabledReason")⟩ := by decide +kernel
theorem f11 {f : Int32} (h : ¬ f < 11) : 10 < f := by rw [Int32.lt_iff_toInt_lt] at *; have : (11 : Int32).toInt = 11 := rfl; have : (10 : Int32).toInt = 10 := rfl; omega
theorem f11' {f : Int32} (h : f < 11) : ¬ 10 < f := by rw [Int32.lt_iff_toInt_lt] at *; have : (11 : Int32).toInt = 11 := rfl; have : (10 : Int32).toInt = 10 := rfl; omega
def dbn (f : Int32) (aF : Addr) : Value := if 10 < f then .ref aF else .null
def dbv (c f : Int32) (aG aF : Addr) : Value := if c = 410 then .ref aG else dbn f aF
theorem dbn_ref (f : Int32) (aF : Addr) : (dbn f aF).isRef = true := by unfold dbn; split <;> rfl
theorem dbv_ref (c f : Int32) (aG aF : Addr) : (dbv c f aG aF).isRef = true := by
  unfold dbv; split
  · rfl
  · exact dbn_ref f aF
theorem rt128 (c : Int32) : c + 128 - 128 = c := by
  apply Int32.toInt_inj.mp
  have h1 := c_isub (c + 128) 128; have h2 := c_iadd c 128; have h3 := rng32 c; have h4 := rng32 (c + 128 - 128)
  have h5 : (128 : Int32).toInt = 128 := rfl
  omega
theorem in256 {c : Int32} {n : Nat} (h1 : ¬ c < -128) (h2 : ¬ 127 < c) (hn : n = (256 : Int32).toNatClampNeg) : ¬ ((c + 128) < 0 ∨ n ≤ (c + 128).toNatClampNeg) := by
  subst hn
  rw [Int32.lt_iff_toInt_lt] at h1 h2
  have h2' := c_iadd c 128; have h3 := rng32 c; have h4 := rng32 (c + 128)
  have h5 : (128 : Int32).toInt = 128 := rfl
  have h6 : (-128 : Int32).toInt = -128 := rfl
  have h7 : (127 : Int32).toInt = 127 := rfl
  have h8 : (0 : Int32).toInt = 0 := rfl
  have h9 : (256 : Int32).toNatClampNeg = 256 := rfl
  have h10 : (c + 128).toNatClampNeg = (c + 128).toInt.toNat := rfl
  rw [Int32.lt_iff_toInt_lt, h8, h9, h10]
  omega
theorem lenOfEval {t : Term} {args : Array Value} {s : State} {a : Addr} {c : Cell} {n : Int32} (ev : t.eval args s none [] s = some (.ref a)) (ha : s.arrayAt? a = some c) (h : (Term.length t).eval args s none [] s = some (.int n)) : c.slots.size < 2 ^ 31 ∧ c.slots.size.toInt32 = n := by
  obtain ⟨x, cell, e1, e2, e3⟩ := Term.length_spec h
  cases ev.symm.trans e1
  cases ha.symm.trans e2
  by_cases q : c.slots.size < 2 ^ 31
  · exact ⟨q, Value.int.inj (Option.some.inj ((len_f ev ha q).symm.trans h))⟩
  · simp [Term.eval, ev, ha, q] at h
theorem subIdx {args : Array Value} {s : State} {j : Int32} (hj : ¬ j < 0) : (Term.sub (.index 0) (.int 128)).eval args s none [j.toNatClampNeg] s = some (.int (j - 128)) := by
  simp [Term.eval, (back32 hj).1]
set_option maxRecDepth 65536 in
set_option maxHeartbeats 40000000 in
theorem rmNum (l : Launch) (Z : State) (a0 : Array Value) (hw : ∀ d ∈ tables_1, d.before a0 Z = true) (n0 : Nat) (h0 : Heap) (O : Old Z n0 h0) (a : Addr) :
    ConW FrameEnd l Z [] (⟨"java/lang/Number", "<init>", "()V"⟩ : MethodName) jdk_18_method_1_code 1 none ({ frames := 1, cells := 0, slots := 0, locals := 12 } : Room) #[(.ref a)] h0 (Pure h0 none) := by
  refine conOf (plainFor_of_name pn_java_lang_Number) ?_
  intro p e s m below mth cc s₁ X0 hx hby hml hown hnm hret hlk hZ e0
  have N0 := Fr.nil n0
  refine Fin.came (castTop (t := _) (by first | (simp [entryFrame, mkF, argsToLocals, Value.category]; done) | rfl) (Steps.refl _) : Steps p.tables e below (s₁.setTop (entryFrame m #[(.ref a)] 1)) (s₁.setTop (mkF m 0 #[.val (.ref a)] []))) ?_
  show Fin _ p e below s _ _ _ s₁ (mkF m 0 #[.val (.ref a)] [])
  refine Fin.go (fun _ k => XS.aloadN X0.here hx rfl (hb hby d3_0) rfl rfl k) ?_
  show Fin _ p e below s _ _ _ s₁ (mkF m 1 #[.val (.ref a)] [(.ref a)])
  obtain ⟨T1, X1, e1, st1⟩ := initO X0 hx hZ hown (hw _ w_18) (hw _ w_19) (hw _ w_20) e0 (g := (mkF m 1 #[.val (.ref a)] [(.ref a)])) rfl (by rw [hml]; rfl) rfl (hb hby d3_1) (by decide) (W := 0) (by show 2 * 0 + _ ≤ _; exact Nat.le_of_eq rfl) (by decide)
  refine Fin.go st1 ?_
  show Fin _ p e below s _ _ _ T1 (mkF m 4 #[.val (.ref a)] [])
  exact Fin.leaveN X1 e1 hlk (v := none) (fun _ => rfl) (by decide) (by decide) ⟨rfl, rfl, rfl⟩ (fun fs hr => X1.returnOut hx hret (hb hby d3_4) hr)
set_option maxRecDepth 65536 in
set_option maxHeartbeats 40000000 in
theorem rmInit (l : Launch) (Z : State) (a0 : Array Value) (hw : ∀ d ∈ tables_1, d.before a0 Z = true) (n0 : Nat) (h0 : Heap) (O : Old Z n0 h0) (a : Addr) (c : Int32) (F : Fld Z h0 a "java/lang/Integer" "value" "I" (.int (0 : Int32))) (A : Exa Z h0 a "java/lang/Integer") (na : n0 ≤ a) :
    ConW FrameEnd l Z [] (⟨"java/lang/Integer", "<init>", "(I)V"⟩ : MethodName) jdk_33_method_23_code 2 none ({ frames := 2, cells := 0, slots := 0, locals := 24 } : Room) #[(.ref a), (.int c)] h0 (fun v h L => v = none ∧ Fr n0 L ∧ Keep h0 h [a] ∧ Exa Z h a "java/lang/Integer" ∧ Fld Z h a "java/lang/Integer" "value" "I" (.int c)) := by
  refine conOf (plainFor_of_name pn_java_lang_Integer) ?_
  intro p e s m below mth cc s₁ X0 hx hby hml hown hnm hret hlk hZ e0
  have N0 := Fr.nil n0
  have K0 := Keep.refl h0 ([a] : List Addr)
  refine Fin.came (castTop (t := _) (by first | (simp [entryFrame, mkF, argsToLocals, Value.category]; done) | rfl) (Steps.refl _) : Steps p.tables e below (s₁.setTop (entryFrame m #[(.ref a), (.int c)] 2)) (s₁.setTop (mkF m 0 #[.val (.ref a), .val (.int c)] []))) ?_
  show Fin _ p e below s _ _ _ s₁ (mkF m 0 #[.val (.ref a), .val (.int c)] [])
  refine Fin.go (fun _ k => XS.aloadN X0.here hx rfl (hb hby d2_0) rfl rfl k) ?_
  show Fin _ p e below s _ _ _ s₁ (mkF m 1 #[.val (.ref a), .val (.int c)] [(.ref a)])
  obtain ⟨v1, T1, L1, X1, q1, st1⟩ := callCt X0 hx hZ (y := (⟨"java/lang/Number", "<init>", "()V"⟩ : MethodName)) rfl hown (hw _ w_12) (hw _ w_13) (hw _ w_16) (hw _ w_17) (by decide) (W := 0) (rmNum l Z a0 hw n0 h0 O a) e0 (by decide) (by decide) (by decide) (by decide) (g := (mkF m 1 #[.val (.ref a), .val (.int c)] [(.ref a)])) rfl (by rw [hml]; rfl) (a := a) (argsL := []) (rest := []) (lenOf pd_ocV rfl) rfl (by show 2 * 0 + _ ≤ _; exact Nat.le_of_eq rfl) (hb hby d2_1)
  obtain ⟨rfl, e1, rfl⟩ := q1
  have N1 := Fr.app N0 (Fr.nil n0)
  refine Fin.go st1 ?_
  show Fin _ p e below s _ _ _ T1 (mkF m 4 #[.val (.ref a), .val (.int c)] [])
  refine Fin.go (fun _ k => XS.aloadN X1.here hx rfl (hb hby d2_4) rfl rfl k) ?_
  show Fin _ p e below s _ _ _ T1 (mkF m 5 #[.val (.ref a), .val (.int c)] [(.ref a)])
  refine Fin.go (fun _ k => XS.iloadN X1.here hx rfl (hb hby d2_5) rfl k) ?_
  show Fin _ p e below s _ _ _ T1 (mkF m 6 #[.val (.ref a), .val (.int c)] [(.int c), (.ref a)])
  obtain ⟨T2, h2, X2, e2, W2, st2⟩ := putF X1 hx hZ hown (host := "") (Or.inl (hw _ w_21)) Via.refl e1 F A (Or.inr ⟨(hw _ w_22), rfl, hnm⟩) (hw _ w_7) (ty := .int) (by decide) rfl rfl (g := (mkF m 6 #[.val (.ref a), .val (.int c)] [(.int c), (.ref a)])) rfl rfl (hb hby d2_6)
  refine Fin.go st2 ?_
  have N2 := Fr.snoc X2 N1 na
  have O2 := O.wr W2 na
  have K2 := K0.wr W2 (Or.inl (List.mem_of_getElem? (i := 0) rfl))
  show Fin _ p e below s _ _ _ T2 (mkF m 9 #[.val (.ref a), .val (.int c)] [])
  exact Fin.leaveN X2 e2 hlk (v := none) (fun _ => rfl) (by decide) (by decide) ⟨rfl, N2, K2, (A.wr W2), (F.same W2)⟩ (fun fs hr => X2.returnOut hx hret (hb hby d2_9) hr)
set_option maxRecDepth 65536 in
set_option maxHeartbeats 40000000 in
theorem rmIV (l : Launch) (Z : State) (a0 : Array Value) (hw : ∀ d ∈ tables_1, d.before a0 Z = true) (n0 : Nat) (h0 : Heap) (O : Old Z n0 h0) (a : Addr) (c : Int32) (F : Fld Z h0 a "java/lang/Integer" "value" "I" (.int c)) :
    ConW FrameEnd l Z [] (⟨"java/lang/Integer", "intValue", "()I"⟩ : MethodName) jdk_33_method_27_code 1 (some .int) ({ frames := 0, cells := 0, slots := 0, locals := 0 } : Room) #[(.ref a)] h0 (Pure h0 (some (.int c))) := by
  refine conOf (plainFor_of_name pn_java_lang_Integer) ?_
  intro p e s m below mth cc s₁ X0 hx hby hml hown hnm hret hlk hZ e0
  have N0 := Fr.nil n0
  refine Fin.came (castTop (t := _) (by first | (simp [entryFrame, mkF, argsToLocals, Value.category]; done) | rfl) (Steps.refl _) : Steps p.tables e below (s₁.setTop (entryFrame m #[(.ref a)] 1)) (s₁.setTop (mkF m 0 #[.val (.ref a)] []))) ?_
  show Fin _ p e below s _ _ _ s₁ (mkF m 0 #[.val (.ref a)] [])
  refine Fin.go (fun _ k => XS.aloadN X0.here hx rfl (hb hby d6_0) rfl rfl k) ?_
  show Fin _ p e below s _ _ _ s₁ (mkF m 1 #[.val (.ref a)] [(.ref a)])
  obtain ⟨T1, X1, e1, st1⟩ := getF X0 hx hZ hown (host := "") (Or.inl (hw _ w_21)) Via.refl e0 F (g := (mkF m 1 #[.val (.ref a)] [(.ref a)])) rfl rfl (hb hby d6_1)
  refine Fin.go st1 ?_
  show Fin _ p e below s _ _ _ T1 (mkF m 4 #[.val (.ref a)] [(.int c)])
  exact Fin.leaveN X1 e1 hlk (v := some (.int c)) (fun h => by rw [hret] at h; cases h) (by decide) (by decide) ⟨rfl, rfl, rfl⟩ (fun fs hr => retI X1 hx hret (hb hby d6_4) hr)
set_option maxRecDepth 65536 in
set_option maxHeartbeats 40000000 in
theorem rmVal (l : Launch) (Z : State) (a0 : Array Value) (hw : ∀ d ∈ tables_1, d.before a0 Z = true) (n0 : Nat) (h0 : Heap) (O : Old Z n0 h0) (c : Int32) (S_hi : Sta Z Z.heap "java/lang/Integer$IntegerCache" "high" "I" (.int 127)) (aK : Addr) (cK : Cell) (S_ca : Sta Z Z.heap "java/lang/Integer$IntegerCache" "cache" "[Ljava/lang/Integer;" (.ref aK)) (B : Bxs Z aK cK "java/lang/Integer" "I" 256 fun j => .int (j - 128)) :
    ConW FrameEnd l Z [] (⟨"java/lang/Integer", "valueOf", "(I)Ljava/lang/Integer;"⟩ : MethodName) jdk_33_method_22_code 1 (some (.object "java/lang/Integer")) ({ frames := 3, cells := 1, slots := 1, locals := 38 } : Room) #[(.int c)] h0 (fun v h L => ∃ b, v = some (.ref b) ∧ Fr n0 L ∧ Keep h0 h [] ∧ Exa Z h b "java/lang/Integer" ∧ Fld Z h b "java/lang/Integer" "value" "I" (.int c)) := by
  refine conOf (plainFor_of_name pn_java_lang_Integer) ?_
  intro p e s m below mth cc s₁ X0 hx hby hml hown hnm hret hlk hZ e0
  have N0 := Fr.nil n0
  have K0 := Keep.refl h0 ([] : List Addr)
  refine Fin.came (castTop (t := _) (by first | (simp [entryFrame, mkF, argsToLocals, Value.category]; done) | rfl) (Steps.refl _) : Steps p.tables e below (s₁.setTop (entryFrame m #[(.int c)] 1)) (s₁.setTop (mkF m 0 #[.val (.int c)] []))) ?_
  show Fin _ p e below s _ _ _ s₁ (mkF m 0 #[.val (.int c)] [])
  refine Fin.go (fun _ k => XS.iloadN X0.here hx rfl (hb hby d1_0) rfl k) ?_
  show Fin _ p e below s _ _ _ s₁ (mkF m 1 #[.val (.int c)] [(.int c)])
  refine Fin.go (fun _ k => XS.bipush X0.here hx rfl (hb hby d1_1) k) ?_
  show Fin _ p e below s _ _ _ s₁ (mkF m 3 #[.val (.int c)] [(.int (-128 : Int32)), (.int c)])
  by_cases c3 : c < (-128 : Int32)
  · refine Fin.go (fun _ k => XS.icmpYes X0.here hx rfl (pc0 := 3) (pc' := 23) rfl (hb hby d1_3) rfl (XT.ii_lt_t c3) (by decide) (by decide) k) ?_
    show Fin _ p e below s _ _ _ s₁ (mkF m 23 #[.val (.int c)] [])
    obtain ⟨T1, h1, X1, e1, E1, A1, D1, U1, st1⟩ := newO X0 hx hZ hown (hw _ w_6) (hw _ w_7) (hw _ w_2) e0 (g := (mkF m 23 #[.val (.int c)] [])) rfl (hb hby d1_23) (by decide) (by decide)
    obtain ⟨a1, g1⟩ : ∃ z, z = h0.size := ⟨_, rfl⟩
    rw [← g1] at A1 D1 U1 st1
    refine Fin.go st1 ?_
    have O1 := O.ext E1
    have K1 := K0.ext E1
    have n1 : n0 ≤ a1 := by have := O.2.1; have := O.1; omega
    have z1 : h0.size ≤ a1 := by have := K0.1; omega
    have F1_value : Fld Z h1 a1 "java/lang/Integer" "value" "I" (.int (0 : Int32)) := D1 (Or.inr (hw _ w_22)) (ty := .int) (by decide)
    show Fin _ p e below s _ _ _ T1 (mkF m 26 #[.val (.int c)] [(.ref a1)])
    refine Fin.go (fun _ k => XS.dup X1.here hx rfl (hb hby d1_26) rfl rfl k) ?_
    show Fin _ p e below s _ _ _ T1 (mkF m 27 #[.val (.int c)] [(.ref a1), (.ref a1)])
    refine Fin.go (fun _ k => XS.iloadN X1.here hx rfl (hb hby d1_27) rfl k) ?_
    show Fin _ p e below s _ _ _ T1 (mkF m 28 #[.val (.int c)] [(.int c), (.ref a1), (.ref a1)])
    obtain ⟨v2, T2, L2, X2, q2, st2⟩ := callCt X1 hx hZ (y := (⟨"java/lang/Integer", "<init>", "(I)V"⟩ : MethodName)) rfl hown (hw _ w_8) (hw _ w_9) (hw _ w_2) (hw _ w_11) (by decide) (W := 1) (rmInit l Z a0 hw n0 h1 O1 a1 c F1_value A1 n1) e1 (by decide) (by decide) (by decide) (by decide) (g := (mkF m 28 #[.val (.int c)] [(.int c), (.ref a1), (.ref a1)])) rfl (by rw [hml]; rfl) (a := a1) (argsL := [(.int c)]) (rest := [(.ref a1)]) (lenOf pd_oIcV rfl) rfl (by show 2 * 0 + _ ≤ _; exact Nat.le_of_eq rfl) (hb hby d1_28)
    obtain ⟨rfl, Nq2, Kq2, A2, F2⟩ := q2
    have N2 := Fr.app N0 Nq2
    have O2 := O1.keep Kq2 (allS n1 all0)
    have K2 := K1.trans Kq2 (allS (Or.inr z1) all0)
    refine Fin.go st2 ?_
    show Fin _ p e below s _ _ _ T2 (mkF m 31 #[.val (.int c)] [(.ref a1)])
    exact Fin.leaveN X2 (rfl : T2.heap = T2.heap) hlk (v := some (.ref a1)) (fun h => by rw [hret] at h; cases h) (by decide) (by decide) ⟨a1, rfl, N2, K2, A2, F2⟩ (fun fs hr => retOut X2 hx hret rfl (Or.inr (Or.inr (Or.inr (Or.inr ⟨rfl, rfl, rfl⟩)))) (hb hby d1_31) hr)
  · refine Fin.go (fun _ k => XS.icmpNo X0.here hx rfl (hb hby d1_3) rfl (XT.ii_lt_f c3) k) ?_
    show Fin _ p e below s _ _ _ s₁ (mkF m 6 #[.val (.int c)] [])
    refine Fin.go (fun _ k => XS.iloadN X0.here hx rfl (hb hby d1_6) rfl k) ?_
    show Fin _ p e below s _ _ _ s₁ (mkF m 7 #[.val (.int c)] [(.int c)])
    obtain ⟨T3, X3, e3, st3⟩ := getS2 X0 hx hZ hown (host := "") (Or.inl (hw _ w_4)) Via.refl e0 (S_hi.ext O.2) (g := (mkF m 7 #[.val (.int c)] [(.int c)])) rfl (hb hby d1_7)
    refine Fin.go st3 ?_
    show Fin _ p e below s _ _ _ T3 (mkF m 10 #[.val (.int c)] [(.int (127 : Int32)), (.int c)])
    by_cases c10 : (127 : Int32) < c
    · refine Fin.go (fun _ k => XS.icmpYes X3.here hx rfl (pc0 := 10) (pc' := 23) rfl (hb hby d1_10) rfl (XT.ii_gt_t c10) (by decide) (by decide) k) ?_
      show Fin _ p e below s _ _ _ T3 (mkF m 23 #[.val (.int c)] [])
      obtain ⟨T4, h4, X4, e4, E4, A4, D4, U4, st4⟩ := newO X3 hx hZ hown (hw _ w_6) (hw _ w_7) (hw _ w_2) e3 (g := (mkF m 23 #[.val (.int c)] [])) rfl (hb hby d1_23) (by decide) (by decide)
      obtain ⟨a4, g4⟩ : ∃ z, z = h0.size := ⟨_, rfl⟩
      rw [← g4] at A4 D4 U4 st4
      refine Fin.go st4 ?_
      have O4 := O.ext E4
      have K4 := K0.ext E4
      have n4 : n0 ≤ a4 := by have := O.2.1; have := O.1; omega
      have z4 : h0.size ≤ a4 := by have := K0.1; omega
      have F4_value : Fld Z h4 a4 "java/lang/Integer" "value" "I" (.int (0 : Int32)) := D4 (Or.inr (hw _ w_22)) (ty := .int) (by decide)
      show Fin _ p e below s _ _ _ T4 (mkF m 26 #[.val (.int c)] [(.ref a4)])
      refine Fin.go (fun _ k => XS.dup X4.here hx rfl (hb hby d1_26) rfl rfl k) ?_
      show Fin _ p e below s _ _ _ T4 (mkF m 27 #[.val (.int c)] [(.ref a4), (.ref a4)])
      refine Fin.go (fun _ k => XS.iloadN X4.here hx rfl (hb hby d1_27) rfl k) ?_
      show Fin _ p e below s _ _ _ T4 (mkF m 28 #[.val (.int c)] [(.int c), (.ref a4), (.ref a4)])
      obtain ⟨v5, T5, L5, X5, q5, st5⟩ := callCt X4 hx hZ (y := (⟨"java/lang/Integer", "<init>", "(I)V"⟩ : MethodName)) rfl hown (hw _ w_8) (hw _ w_9) (hw _ w_2) (hw _ w_11) (by decide) (W := 1) (rmInit l Z a0 hw n0 h4 O4 a4 c F4_value A4 n4) e4 (by decide) (by decide) (by decide) (by decide) (g := (mkF m 28 #[.val (.int c)] [(.int c), (.ref a4), (.ref a4)])) rfl (by rw [hml]; rfl) (a := a4) (argsL := [(.int c)]) (rest := [(.ref a4)]) (lenOf pd_oIcV rfl) rfl (by show 2 * 0 + _ ≤ _; exact Nat.le_of_eq rfl) (hb hby d1_28)
      obtain ⟨rfl, Nq5, Kq5, A5, F5⟩ := q5
      have N5 := Fr.app N0 Nq5
      have O5 := O4.keep Kq5 (allS n4 all0)
      have K5 := K4.trans Kq5 (allS (Or.inr z4) all0)
      refine Fin.go st5 ?_
      show Fin _ p e below s _ _ _ T5 (mkF m 31 #[.val (.int c)] [(.ref a4)])
      exact Fin.leaveN X5 (rfl : T5.heap = T5.heap) hlk (v := some (.ref a4)) (fun h => by rw [hret] at h; cases h) (by decide) (by decide) ⟨a4, rfl, N5, K5, A5, F5⟩ (fun fs hr => retOut X5 hx hret rfl (Or.inr (Or.inr (Or.inr (Or.inr ⟨rfl, rfl, rfl⟩)))) (hb hby d1_31) hr)
    · refine Fin.go (fun _ k => XS.icmpNo X3.here hx rfl (hb hby d1_10) rfl (XT.ii_gt_f c10) k) ?_
      show Fin _ p e below s _ _ _ T3 (mkF m 13 #[.val (.int c)] [])
      obtain ⟨T6, X6, e6, st6⟩ := getS2 X3 hx hZ hown (host := "") (Or.inl (hw _ w_40)) Via.refl e3 (S_ca.ext O.2) (g := (mkF m 13 #[.val (.int c)] [])) rfl (hb hby d1_13)
      refine Fin.go st6 ?_
      show Fin _ p e below s _ _ _ T6 (mkF m 16 #[.val (.int c)] [(.ref aK)])
      refine Fin.go (fun _ k => XS.iloadN X6.here hx rfl (hb hby d1_16) rfl k) ?_
      show Fin _ p e below s _ _ _ T6 (mkF m 17 #[.val (.int c)] [(.int c), (.ref aK)])
      refine Fin.go (fun _ k => XS.sipush X6.here hx rfl (hb hby d1_17) k) ?_
      show Fin _ p e below s _ _ _ T6 (mkF m 20 #[.val (.int c)] [(.int (128 : Int32)), (.int c), (.ref aK)])
      refine Fin.go (fun _ k => XS.iadd X6.here hx rfl (hb hby d1_20) rfl k) ?_
      show Fin _ p e below s _ _ _ T6 (mkF m 21 #[.val (.int c)] [(.int (c + (128 : Int32))), (.ref aK)])
      have hin := in256 c3 c10 B.2.1
      obtain ⟨b, hb1, hb2, hb3⟩ := B.2.2.2 _ hin
      simp only [rt128] at hb3
      refine Fin.go (fun _ k => X6.aaload hx (j := (c + (128 : Int32))) (v := .ref b) (by rw [e6]; exact (B.1.ext O.2).1) (State.isArrayOf_alike hZ.alike B.1.2.1) rfl B.1.2.2 hin hb1 (g := (mkF m 21 #[.val (.int c)] [(.int (c + (128 : Int32))), (.ref aK)])) rfl rfl (hb hby d1_21) _ k) ?_
      show Fin _ p e below s _ _ _ T6 (mkF m 22 #[.val (.int c)] [(.ref b)])
      exact Fin.leaveN X6 e6 hlk (v := some (.ref b)) (fun h => by rw [hret] at h; cases h) (by decide) (by decide) ⟨b, rfl, N0, K0, (hb2.ext O.2), (hb3.ext O.2)⟩ (fun fs hr => retOut X6 hx hret rfl (Or.inr (Or.inr (Or.inr (Or.inr ⟨rfl, rfl, rfl⟩)))) (hb hby d1_22) hr)
set_option maxRecDepth 65536 in
set_option maxHeartbeats 40000000 in
theorem rmDBr (l : Launch) (Z : State) (a0 : Array Value) (hw : ∀ d ∈ tables_1, d.before a0 Z = true) (n0 : Nat) (h0 : Heap) (O : Old Z n0 h0) (b : Addr) (c f : Int32) (F : Fld Z h0 b "java/lang/Integer" "value" "I" (.int c)) (A : Exa Z h0 b "java/lang/Integer") (aG aF : Addr) (S_aG : Sta Z Z.heap "com/example/spool/spool/model/DisabledReason" "GONE" "Lcom/example/spool/spool/model/DisabledReason;" (.ref aG)) (S_aF : Sta Z Z.heap "com/example/spool/spool/model/DisabledReason" "FAILING" "Lcom/example/spool/spool/model/DisabledReason;" (.ref aF)) :
    ConW FrameEnd l Z [] (⟨"com/example/spool/spool/model/Endpoint", "disabledBy", "(Ljava/lang/Integer;I)Lcom/example/spool/spool/model/DisabledReason;"⟩ : MethodName) prog_8_method_1_code 2 (some (.object "com/example/spool/spool/model/DisabledReason")) ({ frames := 1, cells := 0, slots := 0, locals := 12 } : Room) #[(.ref b), (.int f)] h0 (Pure h0 (some (dbv c f aG aF))) := by
  refine conOf (plainFor_of_name pn_com_example_spool_spool_model_Endpoint) ?_
  intro p e s m below mth cc s₁ X0 hx hby hml hown hnm hret hlk hZ e0
  have N0 := Fr.nil n0
  refine Fin.came (castTop (t := _) (by first | (simp [entryFrame, mkF, argsToLocals, Value.category]; done) | rfl) (Steps.refl _) : Steps p.tables e below (s₁.setTop (entryFrame m #[(.ref b), (.int f)] 2)) (s₁.setTop (mkF m 0 #[.val (.ref b), .val (.int f)] []))) ?_
  show Fin _ p e below s _ _ _ s₁ (mkF m 0 #[.val (.ref b), .val (.int f)] [])
  refine Fin.go (fun _ k => XS.aloadN X0.here hx rfl (hb hby d5_0) rfl rfl k) ?_
  show Fin _ p e below s _ _ _ s₁ (mkF m 1 #[.val (.ref b), .val (.int f)] [(.ref b)])
  refine Fin.go (fun _ k => XS.ifnullNo X0.here hx rfl (hb hby d5_1) rfl k) ?_
  show Fin _ p e below s _ _ _ s₁ (mkF m 4 #[.val (.ref b), .val (.int f)] [])
  refine Fin.go (fun _ k => XS.aloadN X0.here hx rfl (hb hby d5_4) rfl rfl k) ?_
  show Fin _ p e below s _ _ _ s₁ (mkF m 5 #[.val (.ref b), .val (.int f)] [(.ref b)])
  obtain ⟨v1, T1, L1, X1, q1, st1⟩ := callVt X0 hx hZ (y := (⟨"java/lang/Integer", "intValue", "()I"⟩ : MethodName)) hown (hw _ w_27) (hw _ w_28) (hw _ w_30) (hw _ w_29) (hw _ w_2) (hw _ w_31) (by decide) (W := 0) (rmIV l Z a0 hw n0 h0 O b c F) e0 A (by decide) (by decide) (by decide) (by decide) (g := (mkF m 5 #[.val (.ref b), .val (.int f)] [(.ref b)])) rfl (by rw [hml]; rfl) (argsL := []) (rest := []) (lenOf pd_ocI rfl) rfl (by show 2 * 0 + _ ≤ _; exact Nat.le_of_eq rfl) (hb hby d5_5)
  obtain ⟨rfl, e1, rfl⟩ := q1
  have N1 := Fr.app N0 (Fr.nil n0)
  refine Fin.go st1 ?_
  show Fin _ p e below s _ _ _ T1 (mkF m 8 #[.val (.ref b), .val (.int f)] [(.int c)])
  refine Fin.go (fun _ k => XS.sipush X1.here hx rfl (hb hby d5_8) k) ?_
  show Fin _ p e below s _ _ _ T1 (mkF m 11 #[.val (.ref b), .val (.int f)] [(.int (410 : Int32)), (.int c)])
  by_cases c11 : c = (410 : Int32)
  · refine Fin.go (fun _ k => XS.icmpNo X1.here hx rfl (hb hby d5_11) rfl (XT.ii_ne_f c11) k) ?_
    show Fin _ p e below s _ _ _ T1 (mkF m 14 #[.val (.ref b), .val (.int f)] [])
    obtain ⟨T2, X2, e2, st2⟩ := getS2 X1 hx hZ hown (host := "") (Or.inl (hw _ w_32)) Via.refl e1 (S_aG.ext O.2) (g := (mkF m 14 #[.val (.ref b), .val (.int f)] [])) rfl (hb hby d5_14)
    refine Fin.go st2 ?_
    show Fin _ p e below s _ _ _ T2 (mkF m 17 #[.val (.ref b), .val (.int f)] [(.ref aG)])
    exact Fin.leaveN X2 e2 hlk (v := some (.ref aG)) (fun h => by rw [hret] at h; cases h) (by decide) (by decide) ⟨by simp [dbv, dbn, c11], rfl, rfl⟩ (fun fs hr => retOut X2 hx hret rfl (Or.inr (Or.inr (Or.inr (Or.inr ⟨rfl, rfl, rfl⟩)))) (hb hby d5_17) hr)
  · refine Fin.go (fun _ k => XS.icmpYes X1.here hx rfl (pc0 := 11) (pc' := 18) rfl (hb hby d5_11) rfl (XT.ii_ne_t c11) (by decide) (by decide) k) ?_
    show Fin _ p e below s _ _ _ T1 (mkF m 18 #[.val (.ref b), .val (.int f)] [])
    refine Fin.go (fun _ k => XS.iloadN X1.here hx rfl (hb hby d5_18) rfl k) ?_
    show Fin _ p e below s _ _ _ T1 (mkF m 19 #[.val (.ref b), .val (.int f)] [(.int f)])
    refine Fin.go (fun _ k => XS.bipush X1.here hx rfl (hb hby d5_19) k) ?_
    show Fin _ p e below s _ _ _ T1 (mkF m 21 #[.val (.ref b), .val (.int f)] [(.int (10 : Int32)), (.int f)])
    by_cases c21 : (10 : Int32) < f
    · refine Fin.go (fun _ k => XS.icmpNo X1.here hx rfl (hb hby d5_21) rfl (XT.ii_le_f c21) k) ?_
      show Fin _ p e below s _ _ _ T1 (mkF m 24 #[.val (.ref b), .val (.int f)] [])
      obtain ⟨T3, X3, e3, st3⟩ := getS2 X1 hx hZ hown (host := "") (Or.inl (hw _ w_36)) Via.refl e1 (S_aF.ext O.2) (g := (mkF m 24 #[.val (.ref b), .val (.int f)] [])) rfl (hb hby d5_24)
      refine Fin.go st3 ?_
      show Fin _ p e below s _ _ _ T3 (mkF m 27 #[.val (.ref b), .val (.int f)] [(.ref aF)])
      refine Fin.go (fun _ k => XS.goto X3.here hx rfl (pc0 := 27) (pc' := 31) rfl (hb hby d5_27) (by decide) (by decide) k) ?_
      show Fin _ p e below s _ _ _ T3 (mkF m 31 #[.val (.ref b), .val (.int f)] [(.ref aF)])
      exact Fin.leaveN X3 e3 hlk (v := some (.ref aF)) (fun h => by rw [hret] at h; cases h) (by decide) (by decide) ⟨by simp [dbv, dbn, c11, c21], rfl, rfl⟩ (fun fs hr => retOut X3 hx hret rfl (Or.inr (Or.inr (Or.inr (Or.inr ⟨rfl, rfl, rfl⟩)))) (hb hby d5_31) hr)
    · refine Fin.go (fun _ k => XS.icmpYes X1.here hx rfl (pc0 := 21) (pc' := 30) rfl (hb hby d5_21) rfl (XT.ii_le_t c21) (by decide) (by decide) k) ?_
      show Fin _ p e below s _ _ _ T1 (mkF m 30 #[.val (.ref b), .val (.int f)] [])
      refine Fin.go (fun _ k => XS.aconstNull X1.here hx rfl (hb hby d5_30) k) ?_
      show Fin _ p e below s _ _ _ T1 (mkF m 31 #[.val (.ref b), .val (.int f)] [.null])
      exact Fin.leaveN X1 e1 hlk (v := some .null) (fun h => by rw [hret] at h; cases h) (by decide) (by decide) ⟨by simp [dbv, dbn, c11, c21], rfl, rfl⟩ (fun fs hr => retOut X1 hx hret rfl (Or.inr (Or.inr (Or.inr (Or.inr ⟨rfl, rfl, rfl⟩)))) (hb hby d5_31) hr)
set_option maxRecDepth 65536 in
set_option maxHeartbeats 40000000 in
theorem rmDBn (l : Launch) (Z : State) (a0 : Array Value) (hw : ∀ d ∈ tables_1, d.before a0 Z = true) (n0 : Nat) (h0 : Heap) (O : Old Z n0 h0) (f : Int32) (aG aF : Addr) (S_aG : Sta Z Z.heap "com/example/spool/spool/model/DisabledReason" "GONE" "Lcom/example/spool/spool/model/DisabledReason;" (.ref aG)) (S_aF : Sta Z Z.heap "com/example/spool/spool/model/DisabledReason" "FAILING" "Lcom/example/spool/spool/model/DisabledReason;" (.ref aF)) :
    ConW FrameEnd l Z [] (⟨"com/example/spool/spool/model/Endpoint", "disabledBy", "(Ljava/lang/Integer;I)Lcom/example/spool/spool/model/DisabledReason;"⟩ : MethodName) prog_8_method_1_code 2 (some (.object "com/example/spool/spool/model/DisabledReason")) ({ frames := 0, cells := 0, slots := 0, locals := 0 } : Room) #[.null, (.int f)] h0 (Pure h0 (some (dbn f aF))) := by
  refine conOf (plainFor_of_name pn_com_example_spool_spool_model_Endpoint) ?_
  intro p e s m below mth cc s₁ X0 hx hby hml hown hnm hret hlk hZ e0
  have N0 := Fr.nil n0
  refine Fin.came (castTop (t := _) (by first | (simp [entryFrame, mkF, argsToLocals, Value.category]; done) | rfl) (Steps.refl _) : Steps p.tables e below (s₁.setTop (entryFrame m #[.null, (.int f)] 2)) (s₁.setTop (mkF m 0 #[.val .null, .val (.int f)] []))) ?_
  show Fin _ p e below s _ _ _ s₁ (mkF m 0 #[.val .null, .val (.int f)] [])
  refine Fin.go (fun _ k => XS.aloadN X0.here hx rfl (hb hby d5_0) rfl rfl k) ?_
  show Fin _ p e below s _ _ _ s₁ (mkF m 1 #[.val .null, .val (.int f)] [.null])
  refine Fin.go (fun _ k => XS.ifnullYes X0.here hx rfl (pc0 := 1) (pc' := 18) rfl (hb hby d5_1) rfl (by decide) (by decide) k) ?_
  show Fin _ p e below s _ _ _ s₁ (mkF m 18 #[.val .null, .val (.int f)] [])
  refine Fin.go (fun _ k => XS.iloadN X0.here hx rfl (hb hby d5_18) rfl k) ?_
  show Fin _ p e below s _ _ _ s₁ (mkF m 19 #[.val .null, .val (.int f)] [(.int f)])
  refine Fin.go (fun _ k => XS.bipush X0.here hx rfl (hb hby d5_19) k) ?_
  show Fin _ p e below s _ _ _ s₁ (mkF m 21 #[.val .null, .val (.int f)] [(.int (10 : Int32)), (.int f)])
  by_cases c21 : (10 : Int32) < f
  · refine Fin.go (fun _ k => XS.icmpNo X0.here hx rfl (hb hby d5_21) rfl (XT.ii_le_f c21) k) ?_
    show Fin _ p e below s _ _ _ s₁ (mkF m 24 #[.val .null, .val (.int f)] [])
    obtain ⟨T1, X1, e1, st1⟩ := getS2 X0 hx hZ hown (host := "") (Or.inl (hw _ w_36)) Via.refl e0 (S_aF.ext O.2) (g := (mkF m 24 #[.val .null, .val (.int f)] [])) rfl (hb hby d5_24)
    refine Fin.go st1 ?_
    show Fin _ p e below s _ _ _ T1 (mkF m 27 #[.val .null, .val (.int f)] [(.ref aF)])
    refine Fin.go (fun _ k => XS.goto X1.here hx rfl (pc0 := 27) (pc' := 31) rfl (hb hby d5_27) (by decide) (by decide) k) ?_
    show Fin _ p e below s _ _ _ T1 (mkF m 31 #[.val .null, .val (.int f)] [(.ref aF)])
    exact Fin.leaveN X1 e1 hlk (v := some (.ref aF)) (fun h => by rw [hret] at h; cases h) (by decide) (by decide) ⟨by simp [dbn, c21], rfl, rfl⟩ (fun fs hr => retOut X1 hx hret rfl (Or.inr (Or.inr (Or.inr (Or.inr ⟨rfl, rfl, rfl⟩)))) (hb hby d5_31) hr)
  · refine Fin.go (fun _ k => XS.icmpYes X0.here hx rfl (pc0 := 21) (pc' := 30) rfl (hb hby d5_21) rfl (XT.ii_le_t c21) (by decide) (by decide) k) ?_
    show Fin _ p e below s _ _ _ s₁ (mkF m 30 #[.val .null, .val (.int f)] [])
    refine Fin.go (fun _ k => XS.aconstNull X0.here hx rfl (hb hby d5_30) k) ?_
    show Fin _ p e below s _ _ _ s₁ (mkF m 31 #[.val .null, .val (.int f)] [.null])
    exact Fin.leaveN X0 e0 hlk (v := some .null) (fun h => by rw [hret] at h; cases h) (by decide) (by decide) ⟨by simp [dbn, c21], rfl, rfl⟩ (fun fs hr => retOut X0 hx hret rfl (Or.inr (Or.inr (Or.inr (Or.inr ⟨rfl, rfl, rfl⟩)))) (hb hby d5_31) hr)
set_option maxRecDepth 65536 in
set_option maxHeartbeats 40000000 in
theorem law (l : Launch) (Z : State) (a0 : Array Value) (hw : ∀ d ∈ tables_1, d.before a0 Z = true) (n0 : Nat) (h0 : Heap) (O : Old Z n0 h0) (p0 p1 p2 : Int32) (S_hi : Sta Z Z.heap "java/lang/Integer$IntegerCache" "high" "I" (.int 127)) (aK : Addr) (cK : Cell) (S_ca : Sta Z Z.heap "java/lang/Integer$IntegerCache" "cache" "[Ljava/lang/Integer;" (.ref aK)) (B : Bxs Z aK cK "java/lang/Integer" "I" 256 fun j => .int (j - 128)) (aG aF : Addr) (S_aG : Sta Z Z.heap "com/example/spool/spool/model/DisabledReason" "GONE" "Lcom/example/spool/spool/model/DisabledReason;" (.ref aG)) (S_aF : Sta Z Z.heap "com/example/spool/spool/model/DisabledReason" "FAILING" "Lcom/example/spool/spool/model/DisabledReason;" (.ref aF)) :
    ConW FrameEnd l Z tables_1 x code maxLocals ret room_1 #[(.int p0), (.int p1), (.int p2)] h0 (fun v h L => v = some (.int 1) ∧ Fr n0 L) := by
  refine conOf (plainFor_of_name pn_com_example_spool_spool_model_EndpointDisabledByPinLaw) ?_
  intro p e s m below mth cc s₁ X0 hx hby hml hown hnm hret hlk hZ e0
  have N0 := Fr.nil n0
  refine Fin.came (castTop (t := _) (by first | (simp [entryFrame, mkF, argsToLocals, Value.category, maxLocals]; done) | rfl) (Steps.refl _) : Steps p.tables e below (s₁.setTop (entryFrame m #[(.int p0), (.int p1), (.int p2)] maxLocals)) (s₁.setTop (mkF m 0 #[.val (.int p0), .val (.int p1), .val (.int p2), .unset, .unset, .unset, .unset, .unset, .unset, .unset, .unset] []))) ?_
  show Fin _ p e below s _ _ _ s₁ (mkF m 0 #[.val (.int p0), .val (.int p1), .val (.int p2), .unset, .unset, .unset, .unset, .unset, .unset, .unset, .unset] [])
  have tail : ∀ (x3 x4 x5 x6 : Int32), Fin FrameEnd p e below s (fun v h L => v = some (.int 1) ∧ Fr n0 L) room_1.cells room_1.slots s₁ (mkF m 78 #[.val (.int p0), .val (.int p1), .val (.int p2), .val (.int x3), .val (.int x4), .val (.int x5), .val (.int x6), .unset, .unset, .unset, .unset] []) := by
    intro x3 x4 x5 x6
    refine Fin.go (fun _ k => XS.iloadN X0.here hx rfl (hb hby at_78) rfl k) ?_
    show Fin _ p e below s _ _ _ s₁ (mkF m 79 #[.val (.int p0), .val (.int p1), .val (.int p2), .val (.int x3), .val (.int x4), .val (.int x5), .val (.int x6), .unset, .unset, .unset, .unset] [(.int x3)])
    by_cases c79 : x3 = 0
    · refine Fin.go (fun _ k => XS.ifYes X0.here hx rfl (pc0 := 79) (pc' := 86) rfl (hb hby at_79) rfl (XT.i0_eq_t c79) (by decide) (by decide) k) ?_
      show Fin _ p e below s _ _ _ s₁ (mkF m 86 #[.val (.int p0), .val (.int p1), .val (.int p2), .val (.int x3), .val (.int x4), .val (.int x5), .val (.int x6), .unset, .unset, .unset, .unset] [])
      refine Fin.go (fun _ k => XS.iload X0.here hx rfl (hb hby at_86) rfl k) ?_
      show Fin _ p e below s _ _ _ s₁ (mkF m 88 #[.val (.int p0), .val (.int p1), .val (.int p2), .val (.int x3), .val (.int x4), .val (.int x5), .val (.int x6), .unset, .unset, .unset, .unset] [(.int x5)])
      obtain ⟨v1, T1, L1, X1, q1, st1⟩ := callSt X0 hx hZ (y := (⟨"java/lang/Integer", "valueOf", "(I)Ljava/lang/Integer;"⟩ : MethodName)) hown (hw _ w_0) (hw _ w_1) (hw _ w_2) (hw _ w_3) (by decide) (W := 0) (rmVal l Z a0 hw n0 h0 O x5 S_hi aK cK S_ca B) e0 (by decide) (by decide) (by decide) (by decide) (g := (mkF m 88 #[.val (.int p0), .val (.int p1), .val (.int p2), .val (.int x3), .val (.int x4), .val (.int x5), .val (.int x6), .unset, .unset, .unset, .unset] [(.int x5)])) rfl (by rw [hml]; rfl) (argsL := [(.int x5)]) (rest := []) (lenOf pd_oIcLjava_lang_Integer_ rfl) rfl (by show 2 * 0 + _ ≤ _; exact Nat.le_of_eq rfl) (hb hby at_88)
      obtain ⟨b1, rfl, Nq1, Kq1, A1, F1⟩ := q1
      have N1 := Fr.app N0 Nq1
      have O1 := O.keep Kq1 all0
      refine Fin.go st1 ?_
      show Fin _ p e below s _ _ _ T1 (mkF m 91 #[.val (.int p0), .val (.int p1), .val (.int p2), .val (.int x3), .val (.int x4), .val (.int x5), .val (.int x6), .unset, .unset, .unset, .unset] [(.ref b1)])
      refine Fin.go (fun _ k => XS.astore X1.here hx rfl (hb hby at_91) rfl rfl (l' := #[.val (.int p0), .val (.int p1), .val (.int p2), .val (.int x3), .val (.int x4), .val (.int x5), .val (.int x6), .val (.ref b1), .unset, .unset, .unset]) rfl k) ?_
      show Fin _ p e below s _ _ _ T1 (mkF m 93 #[.val (.int p0), .val (.int p1), .val (.int p2), .val (.int x3), .val (.int x4), .val (.int x5), .val (.int x6), .val (.ref b1), .unset, .unset, .unset] [])
      refine Fin.go (fun _ k => XS.aload X1.here hx rfl (hb hby at_93) rfl rfl k) ?_
      show Fin _ p e below s _ _ _ T1 (mkF m 95 #[.val (.int p0), .val (.int p1), .val (.int p2), .val (.int x3), .val (.int x4), .val (.int x5), .val (.int x6), .val (.ref b1), .unset, .unset, .unset] [(.ref b1)])
      refine Fin.go (fun _ k => XS.iload X1.here hx rfl (hb hby at_95) rfl k) ?_
      show Fin _ p e below s _ _ _ T1 (mkF m 97 #[.val (.int p0), .val (.int p1), .val (.int p2), .val (.int x3), .val (.int x4), .val (.int x5), .val (.int x6), .val (.ref b1), .unset, .unset, .unset] [(.int x6), (.ref b1)])
      obtain ⟨v2, T2, L2, X2, q2, st2⟩ := callSt X1 hx hZ (y := (⟨"com/example/spool/spool/model/Endpoint", "disabledBy", "(Ljava/lang/Integer;I)Lcom/example/spool/spool/model/DisabledReason;"⟩ : MethodName)) hown (hw _ w_23) (hw _ w_24) (hw _ w_25) (hw _ w_26) (by decide) (W := 0) (rmDBr l Z a0 hw n0 T1.heap O1 b1 x5 x6 F1 A1 aG aF S_aG S_aF) (rfl : T1.heap = T1.heap) (by decide) (by decide) (by decide) (by decide) (g := (mkF m 97 #[.val (.int p0), .val (.int p1), .val (.int p2), .val (.int x3), .val (.int x4), .val (.int x5), .val (.int x6), .val (.ref b1), .unset, .unset, .unset] [(.int x6), (.ref b1)])) rfl (by rw [hml]; rfl) (argsL := [(.ref b1), (.int x6)]) (rest := []) (lenOf pd_oLjava_lang_Integer_IcLcom_example_spool_spool_model_DisabledReason_ rfl) rfl (by show 2 * 0 + _ ≤ _; exact Nat.le_of_eq rfl) (hb hby at_97)
      obtain ⟨rfl, e2, rfl⟩ := q2
      have N2 := Fr.app N1 (Fr.nil n0)
      refine Fin.go st2 ?_
      show Fin _ p e below s _ _ _ T2 (mkF m 100 #[.val (.int p0), .val (.int p1), .val (.int p2), .val (.int x3), .val (.int x4), .val (.int x5), .val (.int x6), .val (.ref b1), .unset, .unset, .unset] [(dbv x5 x6 aG aF)])
      refine Fin.go (fun _ k => XS.astoreS X2.here hx rfl (hb hby at_100) rfl (dbv_ref _ _ _ _) (XT.cat1 (dbv_ref _ _ _ _)) rfl (Or.inl rfl) k) ?_
      show Fin _ p e below s _ _ _ T2 (mkF m 102 #[.val (.int p0), .val (.int p1), .val (.int p2), .val (.int x3), .val (.int x4), .val (.int x5), .val (.int x6), .val (.ref b1), .val (dbv x5 x6 aG aF), .unset, .unset] [])
      refine Fin.go (fun _ k => XS.iloadN X2.here hx rfl (hb hby at_102) rfl k) ?_
      show Fin _ p e below s _ _ _ T2 (mkF m 103 #[.val (.int p0), .val (.int p1), .val (.int p2), .val (.int x3), .val (.int x4), .val (.int x5), .val (.int x6), .val (.ref b1), .val (dbv x5 x6 aG aF), .unset, .unset] [(.int x3)])
      refine Fin.go (fun _ k => XS.ifNo X2.here hx rfl (hb hby at_103) rfl (XT.i0_ne_f c79) k) ?_
      show Fin _ p e below s _ _ _ T2 (mkF m 106 #[.val (.int p0), .val (.int p1), .val (.int p2), .val (.int x3), .val (.int x4), .val (.int x5), .val (.int x6), .val (.ref b1), .val (dbv x5 x6 aG aF), .unset, .unset] [])
      refine Fin.go (fun _ k => XS.iload X2.here hx rfl (hb hby at_106) rfl k) ?_
      show Fin _ p e below s _ _ _ T2 (mkF m 108 #[.val (.int p0), .val (.int p1), .val (.int p2), .val (.int x3), .val (.int x4), .val (.int x5), .val (.int x6), .val (.ref b1), .val (dbv x5 x6 aG aF), .unset, .unset] [(.int x5)])
      refine Fin.go (fun _ k => XS.sipush X2.here hx rfl (hb hby at_108) k) ?_
      show Fin _ p e below s _ _ _ T2 (mkF m 111 #[.val (.int p0), .val (.int p1), .val (.int p2), .val (.int x3), .val (.int x4), .val (.int x5), .val (.int x6), .val (.ref b1), .val (dbv x5 x6 aG aF), .unset, .unset] [(.int (410 : Int32)), (.int x5)])
      by_cases c111 : x5 = (410 : Int32)
      · refine Fin.go (fun _ k => XS.icmpNo X2.here hx rfl (hb hby at_111) rfl (XT.ii_ne_f c111) k) ?_
        show Fin _ p e below s _ _ _ T2 (mkF m 114 #[.val (.int p0), .val (.int p1), .val (.int p2), .val (.int x3), .val (.int x4), .val (.int x5), .val (.int x6), .val (.ref b1), .val (dbv x5 x6 aG aF), .unset, .unset] [])
        refine Fin.go (fun _ k => XS.iconst X2.here hx rfl (hb hby at_114) k) ?_
        show Fin _ p e below s _ _ _ T2 (mkF m 115 #[.val (.int p0), .val (.int p1), .val (.int p2), .val (.int x3), .val (.int x4), .val (.int x5), .val (.int x6), .val (.ref b1), .val (dbv x5 x6 aG aF), .unset, .unset] [(.int (1 : Int32))])
        refine Fin.go (fun _ k => XS.goto X2.here hx rfl (pc0 := 115) (pc' := 119) rfl (hb hby at_115) (by decide) (by decide) k) ?_
        show Fin _ p e below s _ _ _ T2 (mkF m 119 #[.val (.int p0), .val (.int p1), .val (.int p2), .val (.int x3), .val (.int x4), .val (.int x5), .val (.int x6), .val (.ref b1), .val (dbv x5 x6 aG aF), .unset, .unset] [(.int (1 : Int32))])
        refine Fin.go (fun _ k => XS.istore X2.here hx rfl (hb hby at_119) rfl (l' := #[.val (.int p0), .val (.int p1), .val (.int p2), .val (.int x3), .val (.int x4), .val (.int x5), .val (.int x6), .val (.ref b1), .val (dbv x5 x6 aG aF), .val (.int (1 : Int32)), .unset]) rfl k) ?_
        show Fin _ p e below s _ _ _ T2 (mkF m 121 #[.val (.int p0), .val (.int p1), .val (.int p2), .val (.int x3), .val (.int x4), .val (.int x5), .val (.int x6), .val (.ref b1), .val (dbv x5 x6 aG aF), .val (.int (1 : Int32)), .unset] [])
        refine Fin.go (fun _ k => XS.iload X2.here hx rfl (hb hby at_121) rfl k) ?_
        show Fin _ p e below s _ _ _ T2 (mkF m 123 #[.val (.int p0), .val (.int p1), .val (.int p2), .val (.int x3), .val (.int x4), .val (.int x5), .val (.int x6), .val (.ref b1), .val (dbv x5 x6 aG aF), .val (.int (1 : Int32)), .unset] [(.int (1 : Int32))])
        refine Fin.go (fun _ k => XS.ifNo X2.here hx rfl (hb hby at_123) rfl (XT.i0_eq_f (by decide)) k) ?_
        show Fin _ p e below s _ _ _ T2 (mkF m 126 #[.val (.int p0), .val (.int p1), .val (.int p2), .val (.int x3), .val (.int x4), .val (.int x5), .val (.int x6), .val (.ref b1), .val (dbv x5 x6 aG aF), .val (.int (1 : Int32)), .unset] [])
        obtain ⟨T3, X3, e3, st3⟩ := getS2 X2 hx hZ hown (host := "") (Or.inl (hw _ w_35)) Via.refl e2 (S_aG.ext O1.2) (g := (mkF m 126 #[.val (.int p0), .val (.int p1), .val (.int p2), .val (.int x3), .val (.int x4), .val (.int x5), .val (.int x6), .val (.ref b1), .val (dbv x5 x6 aG aF), .val (.int (1 : Int32)), .unset] [])) rfl (hb hby at_126)
        refine Fin.go st3 ?_
        show Fin _ p e below s _ _ _ T3 (mkF m 129 #[.val (.int p0), .val (.int p1), .val (.int p2), .val (.int x3), .val (.int x4), .val (.int x5), .val (.int x6), .val (.ref b1), .val (dbv x5 x6 aG aF), .val (.int (1 : Int32)), .unset] [(.ref aG)])
        refine Fin.go (fun _ k => XS.astore X3.here hx rfl (hb hby at_129) rfl rfl (l' := #[.val (.int p0), .val (.int p1), .val (.int p2), .val (.int x3), .val (.int x4), .val (.int x5), .val (.int x6), .val (.ref b1), .val (dbv x5 x6 aG aF), .val (.int (1 : Int32)), .val (.ref aG)]) rfl k) ?_
        show Fin _ p e below s _ _ _ T3 (mkF m 131 #[.val (.int p0), .val (.int p1), .val (.int p2), .val (.int x3), .val (.int x4), .val (.int x5), .val (.int x6), .val (.ref b1), .val (dbv x5 x6 aG aF), .val (.int (1 : Int32)), .val (.ref aG)] [])
        refine Fin.go (fun _ k => XS.goto X3.here hx rfl (pc0 := 131) (pc' := 152) rfl (hb hby at_131) (by decide) (by decide) k) ?_
        show Fin _ p e below s _ _ _ T3 (mkF m 152 #[.val (.int p0), .val (.int p1), .val (.int p2), .val (.int x3), .val (.int x4), .val (.int x5), .val (.int x6), .val (.ref b1), .val (dbv x5 x6 aG aF), .val (.int (1 : Int32)), .val (.ref aG)] [])
        refine Fin.go (fun _ k => XS.aload X3.here hx rfl (hb hby at_152) rfl (dbv_ref _ _ _ _) k) ?_
        show Fin _ p e below s _ _ _ T3 (mkF m 154 #[.val (.int p0), .val (.int p1), .val (.int p2), .val (.int x3), .val (.int x4), .val (.int x5), .val (.int x6), .val (.ref b1), .val (dbv x5 x6 aG aF), .val (.int (1 : Int32)), .val (.ref aG)] [(dbv x5 x6 aG aF)])
        refine Fin.go (fun _ k => XS.aload X3.here hx rfl (hb hby at_154) rfl rfl k) ?_
        show Fin _ p e below s _ _ _ T3 (mkF m 156 #[.val (.int p0), .val (.int p1), .val (.int p2), .val (.int x3), .val (.int x4), .val (.int x5), .val (.int x6), .val (.ref b1), .val (dbv x5 x6 aG aF), .val (.int (1 : Int32)), .val (.ref aG)] [(.ref aG), (dbv x5 x6 aG aF)])
        refine Fin.go (fun _ k => XT.acmpNo X3.here hx rfl (hb hby at_156) rfl (dbv_ref _ _ _ _) rfl (XT.aa_ne_f (by simp [dbv, dbn, c111])) k) ?_
        show Fin _ p e below s _ _ _ T3 (mkF m 159 #[.val (.int p0), .val (.int p1), .val (.int p2), .val (.int x3), .val (.int x4), .val (.int x5), .val (.int x6), .val (.ref b1), .val (dbv x5 x6 aG aF), .val (.int (1 : Int32)), .val (.ref aG)] [])
        refine Fin.go (fun _ k => XS.iconst X3.here hx rfl (hb hby at_159) k) ?_
        show Fin _ p e below s _ _ _ T3 (mkF m 160 #[.val (.int p0), .val (.int p1), .val (.int p2), .val (.int x3), .val (.int x4), .val (.int x5), .val (.int x6), .val (.ref b1), .val (dbv x5 x6 aG aF), .val (.int (1 : Int32)), .val (.ref aG)] [(.int (1 : Int32))])
        refine Fin.go (fun _ k => XS.goto X3.here hx rfl (pc0 := 160) (pc' := 164) rfl (hb hby at_160) (by decide) (by decide) k) ?_
        show Fin _ p e below s _ _ _ T3 (mkF m 164 #[.val (.int p0), .val (.int p1), .val (.int p2), .val (.int x3), .val (.int x4), .val (.int x5), .val (.int x6), .val (.ref b1), .val (dbv x5 x6 aG aF), .val (.int (1 : Int32)), .val (.ref aG)] [(.int (1 : Int32))])
        exact Fin.leaveN X3 e3 hlk (v := some (.int (nar .boolean (1 : Int32)))) (fun h => by rw [hret] at h; cases h) (by decide) (by decide) ⟨rfl, N2⟩ (fun fs hr => retN X3 hx (t := .boolean) hret (by simp) (hb hby at_164) hr)
      · refine Fin.go (fun _ k => XS.icmpYes X2.here hx rfl (pc0 := 111) (pc' := 118) rfl (hb hby at_111) rfl (XT.ii_ne_t c111) (by decide) (by decide) k) ?_
        show Fin _ p e below s _ _ _ T2 (mkF m 118 #[.val (.int p0), .val (.int p1), .val (.int p2), .val (.int x3), .val (.int x4), .val (.int x5), .val (.int x6), .val (.ref b1), .val (dbv x5 x6 aG aF), .unset, .unset] [])
        refine Fin.go (fun _ k => XS.iconst X2.here hx rfl (hb hby at_118) k) ?_
        show Fin _ p e below s _ _ _ T2 (mkF m 119 #[.val (.int p0), .val (.int p1), .val (.int p2), .val (.int x3), .val (.int x4), .val (.int x5), .val (.int x6), .val (.ref b1), .val (dbv x5 x6 aG aF), .unset, .unset] [(.int (0 : Int32))])
        refine Fin.go (fun _ k => XS.istore X2.here hx rfl (hb hby at_119) rfl (l' := #[.val (.int p0), .val (.int p1), .val (.int p2), .val (.int x3), .val (.int x4), .val (.int x5), .val (.int x6), .val (.ref b1), .val (dbv x5 x6 aG aF), .val (.int (0 : Int32)), .unset]) rfl k) ?_
        show Fin _ p e below s _ _ _ T2 (mkF m 121 #[.val (.int p0), .val (.int p1), .val (.int p2), .val (.int x3), .val (.int x4), .val (.int x5), .val (.int x6), .val (.ref b1), .val (dbv x5 x6 aG aF), .val (.int (0 : Int32)), .unset] [])
        refine Fin.go (fun _ k => XS.iload X2.here hx rfl (hb hby at_121) rfl k) ?_
        show Fin _ p e below s _ _ _ T2 (mkF m 123 #[.val (.int p0), .val (.int p1), .val (.int p2), .val (.int x3), .val (.int x4), .val (.int x5), .val (.int x6), .val (.ref b1), .val (dbv x5 x6 aG aF), .val (.int (0 : Int32)), .unset] [(.int (0 : Int32))])
        refine Fin.go (fun _ k => XS.ifYes X2.here hx rfl (pc0 := 123) (pc' := 134) rfl (hb hby at_123) rfl (XT.i0_eq_t (by decide)) (by decide) (by decide) k) ?_
        show Fin _ p e below s _ _ _ T2 (mkF m 134 #[.val (.int p0), .val (.int p1), .val (.int p2), .val (.int x3), .val (.int x4), .val (.int x5), .val (.int x6), .val (.ref b1), .val (dbv x5 x6 aG aF), .val (.int (0 : Int32)), .unset] [])
        refine Fin.go (fun _ k => XS.iload X2.here hx rfl (hb hby at_134) rfl k) ?_
        show Fin _ p e below s _ _ _ T2 (mkF m 136 #[.val (.int p0), .val (.int p1), .val (.int p2), .val (.int x3), .val (.int x4), .val (.int x5), .val (.int x6), .val (.ref b1), .val (dbv x5 x6 aG aF), .val (.int (0 : Int32)), .unset] [(.int x6)])
        refine Fin.go (fun _ k => XS.bipush X2.here hx rfl (hb hby at_136) k) ?_
        show Fin _ p e below s _ _ _ T2 (mkF m 138 #[.val (.int p0), .val (.int p1), .val (.int p2), .val (.int x3), .val (.int x4), .val (.int x5), .val (.int x6), .val (.ref b1), .val (dbv x5 x6 aG aF), .val (.int (0 : Int32)), .unset] [(.int (11 : Int32)), (.int x6)])
        by_cases c138 : x6 < (11 : Int32)
        · refine Fin.go (fun _ k => XS.icmpYes X2.here hx rfl (pc0 := 138) (pc' := 149) rfl (hb hby at_138) rfl (XT.ii_lt_t c138) (by decide) (by decide) k) ?_
          show Fin _ p e below s _ _ _ T2 (mkF m 149 #[.val (.int p0), .val (.int p1), .val (.int p2), .val (.int x3), .val (.int x4), .val (.int x5), .val (.int x6), .val (.ref b1), .val (dbv x5 x6 aG aF), .val (.int (0 : Int32)), .unset] [])
          refine Fin.go (fun _ k => XS.aconstNull X2.here hx rfl (hb hby at_149) k) ?_
          show Fin _ p e below s _ _ _ T2 (mkF m 150 #[.val (.int p0), .val (.int p1), .val (.int p2), .val (.int x3), .val (.int x4), .val (.int x5), .val (.int x6), .val (.ref b1), .val (dbv x5 x6 aG aF), .val (.int (0 : Int32)), .unset] [.null])
          refine Fin.go (fun _ k => XS.astore X2.here hx rfl (hb hby at_150) rfl rfl (l' := #[.val (.int p0), .val (.int p1), .val (.int p2), .val (.int x3), .val (.int x4), .val (.int x5), .val (.int x6), .val (.ref b1), .val (dbv x5 x6 aG aF), .val (.int (0 : Int32)), .val .null]) rfl k) ?_
          show Fin _ p e below s _ _ _ T2 (mkF m 152 #[.val (.int p0), .val (.int p1), .val (.int p2), .val (.int x3), .val (.int x4), .val (.int x5), .val (.int x6), .val (.ref b1), .val (dbv x5 x6 aG aF), .val (.int (0 : Int32)), .val .null] [])
          refine Fin.go (fun _ k => XS.aload X2.here hx rfl (hb hby at_152) rfl (dbv_ref _ _ _ _) k) ?_
          show Fin _ p e below s _ _ _ T2 (mkF m 154 #[.val (.int p0), .val (.int p1), .val (.int p2), .val (.int x3), .val (.int x4), .val (.int x5), .val (.int x6), .val (.ref b1), .val (dbv x5 x6 aG aF), .val (.int (0 : Int32)), .val .null] [(dbv x5 x6 aG aF)])
          refine Fin.go (fun _ k => XS.aload X2.here hx rfl (hb hby at_154) rfl rfl k) ?_
          show Fin _ p e below s _ _ _ T2 (mkF m 156 #[.val (.int p0), .val (.int p1), .val (.int p2), .val (.int x3), .val (.int x4), .val (.int x5), .val (.int x6), .val (.ref b1), .val (dbv x5 x6 aG aF), .val (.int (0 : Int32)), .val .null] [.null, (dbv x5 x6 aG aF)])
          refine Fin.go (fun _ k => XT.acmpNo X2.here hx rfl (hb hby at_156) rfl (dbv_ref _ _ _ _) rfl (XT.aa_ne_f (by simp [dbv, dbn, c111, f11' c138])) k) ?_
          show Fin _ p e below s _ _ _ T2 (mkF m 159 #[.val (.int p0), .val (.int p1), .val (.int p2), .val (.int x3), .val (.int x4), .val (.int x5), .val (.int x6), .val (.ref b1), .val (dbv x5 x6 aG aF), .val (.int (0 : Int32)), .val .null] [])
          refine Fin.go (fun _ k => XS.iconst X2.here hx rfl (hb hby at_159) k) ?_
          show Fin _ p e below s _ _ _ T2 (mkF m 160 #[.val (.int p0), .val (.int p1), .val (.int p2), .val (.int x3), .val (.int x4), .val (.int x5), .val (.int x6), .val (.ref b1), .val (dbv x5 x6 aG aF), .val (.int (0 : Int32)), .val .null] [(.int (1 : Int32))])
          refine Fin.go (fun _ k => XS.goto X2.here hx rfl (pc0 := 160) (pc' := 164) rfl (hb hby at_160) (by decide) (by decide) k) ?_
          show Fin _ p e below s _ _ _ T2 (mkF m 164 #[.val (.int p0), .val (.int p1), .val (.int p2), .val (.int x3), .val (.int x4), .val (.int x5), .val (.int x6), .val (.ref b1), .val (dbv x5 x6 aG aF), .val (.int (0 : Int32)), .val .null] [(.int (1 : Int32))])
          exact Fin.leaveN X2 e2 hlk (v := some (.int (nar .boolean (1 : Int32)))) (fun h => by rw [hret] at h; cases h) (by decide) (by decide) ⟨rfl, N2⟩ (fun fs hr => retN X2 hx (t := .boolean) hret (by simp) (hb hby at_164) hr)
        · refine Fin.go (fun _ k => XS.icmpNo X2.here hx rfl (hb hby at_138) rfl (XT.ii_lt_f c138) k) ?_
          show Fin _ p e below s _ _ _ T2 (mkF m 141 #[.val (.int p0), .val (.int p1), .val (.int p2), .val (.int x3), .val (.int x4), .val (.int x5), .val (.int x6), .val (.ref b1), .val (dbv x5 x6 aG aF), .val (.int (0 : Int32)), .unset] [])
          obtain ⟨T4, X4, e4, st4⟩ := getS2 X2 hx hZ hown (host := "") (Or.inl (hw _ w_38)) Via.refl e2 (S_aF.ext O1.2) (g := (mkF m 141 #[.val (.int p0), .val (.int p1), .val (.int p2), .val (.int x3), .val (.int x4), .val (.int x5), .val (.int x6), .val (.ref b1), .val (dbv x5 x6 aG aF), .val (.int (0 : Int32)), .unset] [])) rfl (hb hby at_141)
          refine Fin.go st4 ?_
          show Fin _ p e below s _ _ _ T4 (mkF m 144 #[.val (.int p0), .val (.int p1), .val (.int p2), .val (.int x3), .val (.int x4), .val (.int x5), .val (.int x6), .val (.ref b1), .val (dbv x5 x6 aG aF), .val (.int (0 : Int32)), .unset] [(.ref aF)])
          refine Fin.go (fun _ k => XS.astore X4.here hx rfl (hb hby at_144) rfl rfl (l' := #[.val (.int p0), .val (.int p1), .val (.int p2), .val (.int x3), .val (.int x4), .val (.int x5), .val (.int x6), .val (.ref b1), .val (dbv x5 x6 aG aF), .val (.int (0 : Int32)), .val (.ref aF)]) rfl k) ?_
          show Fin _ p e below s _ _ _ T4 (mkF m 146 #[.val (.int p0), .val (.int p1), .val (.int p2), .val (.int x3), .val (.int x4), .val (.int x5), .val (.int x6), .val (.ref b1), .val (dbv x5 x6 aG aF), .val (.int (0 : Int32)), .val (.ref aF)] [])
          refine Fin.go (fun _ k => XS.goto X4.here hx rfl (pc0 := 146) (pc' := 152) rfl (hb hby at_146) (by decide) (by decide) k) ?_
          show Fin _ p e below s _ _ _ T4 (mkF m 152 #[.val (.int p0), .val (.int p1), .val (.int p2), .val (.int x3), .val (.int x4), .val (.int x5), .val (.int x6), .val (.ref b1), .val (dbv x5 x6 aG aF), .val (.int (0 : Int32)), .val (.ref aF)] [])
          refine Fin.go (fun _ k => XS.aload X4.here hx rfl (hb hby at_152) rfl (dbv_ref _ _ _ _) k) ?_
          show Fin _ p e below s _ _ _ T4 (mkF m 154 #[.val (.int p0), .val (.int p1), .val (.int p2), .val (.int x3), .val (.int x4), .val (.int x5), .val (.int x6), .val (.ref b1), .val (dbv x5 x6 aG aF), .val (.int (0 : Int32)), .val (.ref aF)] [(dbv x5 x6 aG aF)])
          refine Fin.go (fun _ k => XS.aload X4.here hx rfl (hb hby at_154) rfl rfl k) ?_
          show Fin _ p e below s _ _ _ T4 (mkF m 156 #[.val (.int p0), .val (.int p1), .val (.int p2), .val (.int x3), .val (.int x4), .val (.int x5), .val (.int x6), .val (.ref b1), .val (dbv x5 x6 aG aF), .val (.int (0 : Int32)), .val (.ref aF)] [(.ref aF), (dbv x5 x6 aG aF)])
          refine Fin.go (fun _ k => XT.acmpNo X4.here hx rfl (hb hby at_156) rfl (dbv_ref _ _ _ _) rfl (XT.aa_ne_f (by simp [dbv, dbn, c111, f11 c138])) k) ?_
          show Fin _ p e below s _ _ _ T4 (mkF m 159 #[.val (.int p0), .val (.int p1), .val (.int p2), .val (.int x3), .val (.int x4), .val (.int x5), .val (.int x6), .val (.ref b1), .val (dbv x5 x6 aG aF), .val (.int (0 : Int32)), .val (.ref aF)] [])
          refine Fin.go (fun _ k => XS.iconst X4.here hx rfl (hb hby at_159) k) ?_
          show Fin _ p e below s _ _ _ T4 (mkF m 160 #[.val (.int p0), .val (.int p1), .val (.int p2), .val (.int x3), .val (.int x4), .val (.int x5), .val (.int x6), .val (.ref b1), .val (dbv x5 x6 aG aF), .val (.int (0 : Int32)), .val (.ref aF)] [(.int (1 : Int32))])
          refine Fin.go (fun _ k => XS.goto X4.here hx rfl (pc0 := 160) (pc' := 164) rfl (hb hby at_160) (by decide) (by decide) k) ?_
          show Fin _ p e below s _ _ _ T4 (mkF m 164 #[.val (.int p0), .val (.int p1), .val (.int p2), .val (.int x3), .val (.int x4), .val (.int x5), .val (.int x6), .val (.ref b1), .val (dbv x5 x6 aG aF), .val (.int (0 : Int32)), .val (.ref aF)] [(.int (1 : Int32))])
          exact Fin.leaveN X4 e4 hlk (v := some (.int (nar .boolean (1 : Int32)))) (fun h => by rw [hret] at h; cases h) (by decide) (by decide) ⟨rfl, N2⟩ (fun fs hr => retN X4 hx (t := .boolean) hret (by simp) (hb hby at_164) hr)
    · refine Fin.go (fun _ k => XS.ifNo X0.here hx rfl (hb hby at_79) rfl (XT.i0_eq_f c79) k) ?_
      show Fin _ p e below s _ _ _ s₁ (mkF m 82 #[.val (.int p0), .val (.int p1), .val (.int p2), .val (.int x3), .val (.int x4), .val (.int x5), .val (.int x6), .unset, .unset, .unset, .unset] [])
      refine Fin.go (fun _ k => XS.aconstNull X0.here hx rfl (hb hby at_82) k) ?_
      show Fin _ p e below s _ _ _ s₁ (mkF m 83 #[.val (.int p0), .val (.int p1), .val (.int p2), .val (.int x3), .val (.int x4), .val (.int x5), .val (.int x6), .unset, .unset, .unset, .unset] [.null])
      refine Fin.go (fun _ k => XS.goto X0.here hx rfl (pc0 := 83) (pc' := 91) rfl (hb hby at_83) (by decide) (by decide) k) ?_
      show Fin _ p e below s _ _ _ s₁ (mkF m 91 #[.val (.int p0), .val (.int p1), .val (.int p2), .val (.int x3), .val (.int x4), .val (.int x5), .val (.int x6), .unset, .unset, .unset, .unset] [.null])
      refine Fin.go (fun _ k => XS.astore X0.here hx rfl (hb hby at_91) rfl rfl (l' := #[.val (.int p0), .val (.int p1), .val (.int p2), .val (.int x3), .val (.int x4), .val (.int x5), .val (.int x6), .val .null, .unset, .unset, .unset]) rfl k) ?_
      show Fin _ p e below s _ _ _ s₁ (mkF m 93 #[.val (.int p0), .val (.int p1), .val (.int p2), .val (.int x3), .val (.int x4), .val (.int x5), .val (.int x6), .val .null, .unset, .unset, .unset] [])
      refine Fin.go (fun _ k => XS.aload X0.here hx rfl (hb hby at_93) rfl rfl k) ?_
      show Fin _ p e below s _ _ _ s₁ (mkF m 95 #[.val (.int p0), .val (.int p1), .val (.int p2), .val (.int x3), .val (.int x4), .val (.int x5), .val (.int x6), .val .null, .unset, .unset, .unset] [.null])
      refine Fin.go (fun _ k => XS.iload X0.here hx rfl (hb hby at_95) rfl k) ?_
      show Fin _ p e below s _ _ _ s₁ (mkF m 97 #[.val (.int p0), .val (.int p1), .val (.int p2), .val (.int x3), .val (.int x4), .val (.int x5), .val (.int x6), .val .null, .unset, .unset, .unset] [(.int x6), .null])
      obtain ⟨v5, T5, L5, X5, q5, st5⟩ := callSt X0 hx hZ (y := (⟨"com/example/spool/spool/model/Endpoint", "disabledBy", "(Ljava/lang/Integer;I)Lcom/example/spool/spool/model/DisabledReason;"⟩ : MethodName)) hown (hw _ w_23) (hw _ w_24) (hw _ w_25) (hw _ w_26) (by decide) (W := 0) (rmDBn l Z a0 hw n0 h0 O x6 aG aF S_aG S_aF) e0 (by decide) (by decide) (by decide) (by decide) (g := (mkF m 97 #[.val (.int p0), .val (.int p1), .val (.int p2), .val (.int x3), .val (.int x4), .val (.int x5), .val (.int x6), .val .null, .unset, .unset, .unset] [(.int x6), .null])) rfl (by rw [hml]; rfl) (argsL := [.null, (.int x6)]) (rest := []) (lenOf pd_oLjava_lang_Integer_IcLcom_example_spool_spool_model_DisabledReason_ rfl) rfl (by show 2 * 0 + _ ≤ _; exact Nat.le_of_eq rfl) (hb hby at_97)
      obtain ⟨rfl, e5, rfl⟩ := q5
      have N5 := Fr.app N0 (Fr.nil n0)
      refine Fin.go st5 ?_
      show Fin _ p e below s _ _ _ T5 (mkF m 100 #[.val (.int p0), .val (.int p1), .val (.int p2), .val (.int x3), .val (.int x4), .val (.int x5), .val (.int x6), .val .null, .unset, .unset, .unset] [(dbn x6 aF)])
      refine Fin.go (fun _ k => XS.astoreS X5.here hx rfl (hb hby at_100) rfl (dbn_ref _ _) (XT.cat1 (dbn_ref _ _)) rfl (Or.inl rfl) k) ?_
      show Fin _ p e below s _ _ _ T5 (mkF m 102 #[.val (.int p0), .val (.int p1), .val (.int p2), .val (.int x3), .val (.int x4), .val (.int x5), .val (.int x6), .val .null, .val (dbn x6 aF), .unset, .unset] [])
      refine Fin.go (fun _ k => XS.iloadN X5.here hx rfl (hb hby at_102) rfl k) ?_
      show Fin _ p e below s _ _ _ T5 (mkF m 103 #[.val (.int p0), .val (.int p1), .val (.int p2), .val (.int x3), .val (.int x4), .val (.int x5), .val (.int x6), .val .null, .val (dbn x6 aF), .unset, .unset] [(.int x3)])
      refine Fin.go (fun _ k => XS.ifYes X5.here hx rfl (pc0 := 103) (pc' := 118) rfl (hb hby at_103) rfl (XT.i0_ne_t c79) (by decide) (by decide) k) ?_
      show Fin _ p e below s _ _ _ T5 (mkF m 118 #[.val (.int p0), .val (.int p1), .val (.int p2), .val (.int x3), .val (.int x4), .val (.int x5), .val (.int x6), .val .null, .val (dbn x6 aF), .unset, .unset] [])
      refine Fin.go (fun _ k => XS.iconst X5.here hx rfl (hb hby at_118) k) ?_
      show Fin _ p e below s _ _ _ T5 (mkF m 119 #[.val (.int p0), .val (.int p1), .val (.int p2), .val (.int x3), .val (.int x4), .val (.int x5), .val (.int x6), .val .null, .val (dbn x6 aF), .unset, .unset] [(.int (0 : Int32))])
      refine Fin.go (fun _ k => XS.istore X5.here hx rfl (hb hby at_119) rfl (l' := #[.val (.int p0), .val (.int p1), .val (.int p2), .val (.int x3), .val (.int x4), .val (.int x5), .val (.int x6), .val .null, .val (dbn x6 aF), .val (.int (0 : Int32)), .unset]) rfl k) ?_
      show Fin _ p e below s _ _ _ T5 (mkF m 121 #[.val (.int p0), .val (.int p1), .val (.int p2), .val (.int x3), .val (.int x4), .val (.int x5), .val (.int x6), .val .null, .val (dbn x6 aF), .val (.int (0 : Int32)), .unset] [])
      refine Fin.go (fun _ k => XS.iload X5.here hx rfl (hb hby at_121) rfl k) ?_
      show Fin _ p e below s _ _ _ T5 (mkF m 123 #[.val (.int p0), .val (.int p1), .val (.int p2), .val (.int x3), .val (.int x4), .val (.int x5), .val (.int x6), .val .null, .val (dbn x6 aF), .val (.int (0 : Int32)), .unset] [(.int (0 : Int32))])
      refine Fin.go (fun _ k => XS.ifYes X5.here hx rfl (pc0 := 123) (pc' := 134) rfl (hb hby at_123) rfl (XT.i0_eq_t (by decide)) (by decide) (by decide) k) ?_
      show Fin _ p e below s _ _ _ T5 (mkF m 134 #[.val (.int p0), .val (.int p1), .val (.int p2), .val (.int x3), .val (.int x4), .val (.int x5), .val (.int x6), .val .null, .val (dbn x6 aF), .val (.int (0 : Int32)), .unset] [])
      refine Fin.go (fun _ k => XS.iload X5.here hx rfl (hb hby at_134) rfl k) ?_
      show Fin _ p e below s _ _ _ T5 (mkF m 136 #[.val (.int p0), .val (.int p1), .val (.int p2), .val (.int x3), .val (.int x4), .val (.int x5), .val (.int x6), .val .null, .val (dbn x6 aF), .val (.int (0 : Int32)), .unset] [(.int x6)])
      refine Fin.go (fun _ k => XS.bipush X5.here hx rfl (hb hby at_136) k) ?_
      show Fin _ p e below s _ _ _ T5 (mkF m 138 #[.val (.int p0), .val (.int p1), .val (.int p2), .val (.int x3), .val (.int x4), .val (.int x5), .val (.int x6), .val .null, .val (dbn x6 aF), .val (.int (0 : Int32)), .unset] [(.int (11 : Int32)), (.int x6)])
      by_cases c138 : x6 < (11 : Int32)
      · refine Fin.go (fun _ k => XS.icmpYes X5.here hx rfl (pc0 := 138) (pc' := 149) rfl (hb hby at_138) rfl (XT.ii_lt_t c138) (by decide) (by decide) k) ?_
        show Fin _ p e below s _ _ _ T5 (mkF m 149 #[.val (.int p0), .val (.int p1), .val (.int p2), .val (.int x3), .val (.int x4), .val (.int x5), .val (.int x6), .val .null, .val (dbn x6 aF), .val (.int (0 : Int32)), .unset] [])
        refine Fin.go (fun _ k => XS.aconstNull X5.here hx rfl (hb hby at_149) k) ?_
        show Fin _ p e below s _ _ _ T5 (mkF m 150 #[.val (.int p0), .val (.int p1), .val (.int p2), .val (.int x3), .val (.int x4), .val (.int x5), .val (.int x6), .val .null, .val (dbn x6 aF), .val (.int (0 : Int32)), .unset] [.null])
        refine Fin.go (fun _ k => XS.astore X5.here hx rfl (hb hby at_150) rfl rfl (l' := #[.val (.int p0), .val (.int p1), .val (.int p2), .val (.int x3), .val (.int x4), .val (.int x5), .val (.int x6), .val .null, .val (dbn x6 aF), .val (.int (0 : Int32)), .val .null]) rfl k) ?_
        show Fin _ p e below s _ _ _ T5 (mkF m 152 #[.val (.int p0), .val (.int p1), .val (.int p2), .val (.int x3), .val (.int x4), .val (.int x5), .val (.int x6), .val .null, .val (dbn x6 aF), .val (.int (0 : Int32)), .val .null] [])
        refine Fin.go (fun _ k => XS.aload X5.here hx rfl (hb hby at_152) rfl (dbn_ref _ _) k) ?_
        show Fin _ p e below s _ _ _ T5 (mkF m 154 #[.val (.int p0), .val (.int p1), .val (.int p2), .val (.int x3), .val (.int x4), .val (.int x5), .val (.int x6), .val .null, .val (dbn x6 aF), .val (.int (0 : Int32)), .val .null] [(dbn x6 aF)])
        refine Fin.go (fun _ k => XS.aload X5.here hx rfl (hb hby at_154) rfl rfl k) ?_
        show Fin _ p e below s _ _ _ T5 (mkF m 156 #[.val (.int p0), .val (.int p1), .val (.int p2), .val (.int x3), .val (.int x4), .val (.int x5), .val (.int x6), .val .null, .val (dbn x6 aF), .val (.int (0 : Int32)), .val .null] [.null, (dbn x6 aF)])
        refine Fin.go (fun _ k => XT.acmpNo X5.here hx rfl (hb hby at_156) rfl (dbn_ref _ _) rfl (XT.aa_ne_f (by simp [dbv, dbn, f11' c138])) k) ?_
        show Fin _ p e below s _ _ _ T5 (mkF m 159 #[.val (.int p0), .val (.int p1), .val (.int p2), .val (.int x3), .val (.int x4), .val (.int x5), .val (.int x6), .val .null, .val (dbn x6 aF), .val (.int (0 : Int32)), .val .null] [])
        refine Fin.go (fun _ k => XS.iconst X5.here hx rfl (hb hby at_159) k) ?_
        show Fin _ p e below s _ _ _ T5 (mkF m 160 #[.val (.int p0), .val (.int p1), .val (.int p2), .val (.int x3), .val (.int x4), .val (.int x5), .val (.int x6), .val .null, .val (dbn x6 aF), .val (.int (0 : Int32)), .val .null] [(.int (1 : Int32))])
        refine Fin.go (fun _ k => XS.goto X5.here hx rfl (pc0 := 160) (pc' := 164) rfl (hb hby at_160) (by decide) (by decide) k) ?_
        show Fin _ p e below s _ _ _ T5 (mkF m 164 #[.val (.int p0), .val (.int p1), .val (.int p2), .val (.int x3), .val (.int x4), .val (.int x5), .val (.int x6), .val .null, .val (dbn x6 aF), .val (.int (0 : Int32)), .val .null] [(.int (1 : Int32))])
        exact Fin.leaveN X5 e5 hlk (v := some (.int (nar .boolean (1 : Int32)))) (fun h => by rw [hret] at h; cases h) (by decide) (by decide) ⟨rfl, N5⟩ (fun fs hr => retN X5 hx (t := .boolean) hret (by simp) (hb hby at_164) hr)
      · refine Fin.go (fun _ k => XS.icmpNo X5.here hx rfl (hb hby at_138) rfl (XT.ii_lt_f c138) k) ?_
        show Fin _ p e below s _ _ _ T5 (mkF m 141 #[.val (.int p0), .val (.int p1), .val (.int p2), .val (.int x3), .val (.int x4), .val (.int x5), .val (.int x6), .val .null, .val (dbn x6 aF), .val (.int (0 : Int32)), .unset] [])
        obtain ⟨T6, X6, e6, st6⟩ := getS2 X5 hx hZ hown (host := "") (Or.inl (hw _ w_38)) Via.refl e5 (S_aF.ext O.2) (g := (mkF m 141 #[.val (.int p0), .val (.int p1), .val (.int p2), .val (.int x3), .val (.int x4), .val (.int x5), .val (.int x6), .val .null, .val (dbn x6 aF), .val (.int (0 : Int32)), .unset] [])) rfl (hb hby at_141)
        refine Fin.go st6 ?_
        show Fin _ p e below s _ _ _ T6 (mkF m 144 #[.val (.int p0), .val (.int p1), .val (.int p2), .val (.int x3), .val (.int x4), .val (.int x5), .val (.int x6), .val .null, .val (dbn x6 aF), .val (.int (0 : Int32)), .unset] [(.ref aF)])
        refine Fin.go (fun _ k => XS.astore X6.here hx rfl (hb hby at_144) rfl rfl (l' := #[.val (.int p0), .val (.int p1), .val (.int p2), .val (.int x3), .val (.int x4), .val (.int x5), .val (.int x6), .val .null, .val (dbn x6 aF), .val (.int (0 : Int32)), .val (.ref aF)]) rfl k) ?_
        show Fin _ p e below s _ _ _ T6 (mkF m 146 #[.val (.int p0), .val (.int p1), .val (.int p2), .val (.int x3), .val (.int x4), .val (.int x5), .val (.int x6), .val .null, .val (dbn x6 aF), .val (.int (0 : Int32)), .val (.ref aF)] [])
        refine Fin.go (fun _ k => XS.goto X6.here hx rfl (pc0 := 146) (pc' := 152) rfl (hb hby at_146) (by decide) (by decide) k) ?_
        show Fin _ p e below s _ _ _ T6 (mkF m 152 #[.val (.int p0), .val (.int p1), .val (.int p2), .val (.int x3), .val (.int x4), .val (.int x5), .val (.int x6), .val .null, .val (dbn x6 aF), .val (.int (0 : Int32)), .val (.ref aF)] [])
        refine Fin.go (fun _ k => XS.aload X6.here hx rfl (hb hby at_152) rfl (dbn_ref _ _) k) ?_
        show Fin _ p e below s _ _ _ T6 (mkF m 154 #[.val (.int p0), .val (.int p1), .val (.int p2), .val (.int x3), .val (.int x4), .val (.int x5), .val (.int x6), .val .null, .val (dbn x6 aF), .val (.int (0 : Int32)), .val (.ref aF)] [(dbn x6 aF)])
        refine Fin.go (fun _ k => XS.aload X6.here hx rfl (hb hby at_154) rfl rfl k) ?_
        show Fin _ p e below s _ _ _ T6 (mkF m 156 #[.val (.int p0), .val (.int p1), .val (.int p2), .val (.int x3), .val (.int x4), .val (.int x5), .val (.int x6), .val .null, .val (dbn x6 aF), .val (.int (0 : Int32)), .val (.ref aF)] [(.ref aF), (dbn x6 aF)])
        refine Fin.go (fun _ k => XT.acmpNo X6.here hx rfl (hb hby at_156) rfl (dbn_ref _ _) rfl (XT.aa_ne_f (by simp [dbv, dbn, f11 c138])) k) ?_
        show Fin _ p e below s _ _ _ T6 (mkF m 159 #[.val (.int p0), .val (.int p1), .val (.int p2), .val (.int x3), .val (.int x4), .val (.int x5), .val (.int x6), .val .null, .val (dbn x6 aF), .val (.int (0 : Int32)), .val (.ref aF)] [])
        refine Fin.go (fun _ k => XS.iconst X6.here hx rfl (hb hby at_159) k) ?_
        show Fin _ p e below s _ _ _ T6 (mkF m 160 #[.val (.int p0), .val (.int p1), .val (.int p2), .val (.int x3), .val (.int x4), .val (.int x5), .val (.int x6), .val .null, .val (dbn x6 aF), .val (.int (0 : Int32)), .val (.ref aF)] [(.int (1 : Int32))])
        refine Fin.go (fun _ k => XS.goto X6.here hx rfl (pc0 := 160) (pc' := 164) rfl (hb hby at_160) (by decide) (by decide) k) ?_
        show Fin _ p e below s _ _ _ T6 (mkF m 164 #[.val (.int p0), .val (.int p1), .val (.int p2), .val (.int x3), .val (.int x4), .val (.int x5), .val (.int x6), .val .null, .val (dbn x6 aF), .val (.int (0 : Int32)), .val (.ref aF)] [(.int (1 : Int32))])
        exact Fin.leaveN X6 e6 hlk (v := some (.int (nar .boolean (1 : Int32)))) (fun h => by rw [hret] at h; cases h) (by decide) (by decide) ⟨rfl, N5⟩ (fun fs hr => retN X6 hx (t := .boolean) hret (by simp) (hb hby at_164) hr)
  show Fin _ p e below s _ _ _ s₁ (mkF m 0 #[.val (.int p0), .val (.int p1), .val (.int p2), .unset, .unset, .unset, .unset, .unset, .unset, .unset, .unset] [])
  refine Fin.go (fun _ k => XS.iloadN X0.here hx rfl (hb hby at_0) rfl k) ?_
  show Fin _ p e below s _ _ _ s₁ (mkF m 1 #[.val (.int p0), .val (.int p1), .val (.int p2), .unset, .unset, .unset, .unset, .unset, .unset, .unset, .unset] [(.int p2)])
  refine Fin.go (fun _ k => XS.iconst X0.here hx rfl (hb hby at_1) k) ?_
  show Fin _ p e below s _ _ _ s₁ (mkF m 2 #[.val (.int p0), .val (.int p1), .val (.int p2), .unset, .unset, .unset, .unset, .unset, .unset, .unset, .unset] [(.int (1 : Int32)), (.int p2)])
  refine Fin.go (fun _ k => XS.iand X0.here hx rfl (hb hby at_2) rfl k) ?_
  show Fin _ p e below s _ _ _ s₁ (mkF m 3 #[.val (.int p0), .val (.int p1), .val (.int p2), .unset, .unset, .unset, .unset, .unset, .unset, .unset, .unset] [(.int (p2 &&& (1 : Int32)))])
  by_cases c3 : (p2 &&& (1 : Int32)) = 0
  · refine Fin.go (fun _ k => XS.ifYes X0.here hx rfl (pc0 := 3) (pc' := 10) rfl (hb hby at_3) rfl (XT.i0_eq_t c3) (by decide) (by decide) k) ?_
    show Fin _ p e below s _ _ _ s₁ (mkF m 10 #[.val (.int p0), .val (.int p1), .val (.int p2), .unset, .unset, .unset, .unset, .unset, .unset, .unset, .unset] [])
    refine Fin.go (fun _ k => XS.iconst X0.here hx rfl (hb hby at_10) k) ?_
    show Fin _ p e below s _ _ _ s₁ (mkF m 11 #[.val (.int p0), .val (.int p1), .val (.int p2), .unset, .unset, .unset, .unset, .unset, .unset, .unset, .unset] [(.int (0 : Int32))])
    refine Fin.go (fun _ k => XS.istoreN X0.here hx rfl (hb hby at_11) rfl (l' := #[.val (.int p0), .val (.int p1), .val (.int p2), .val (.int (0 : Int32)), .unset, .unset, .unset, .unset, .unset, .unset, .unset]) rfl k) ?_
    show Fin _ p e below s _ _ _ s₁ (mkF m 12 #[.val (.int p0), .val (.int p1), .val (.int p2), .val (.int (0 : Int32)), .unset, .unset, .unset, .unset, .unset, .unset, .unset] [])
    refine Fin.go (fun _ k => XS.iloadN X0.here hx rfl (hb hby at_12) rfl k) ?_
    show Fin _ p e below s _ _ _ s₁ (mkF m 13 #[.val (.int p0), .val (.int p1), .val (.int p2), .val (.int (0 : Int32)), .unset, .unset, .unset, .unset, .unset, .unset, .unset] [(.int p2)])
    refine Fin.go (fun _ k => XS.iconst X0.here hx rfl (hb hby at_13) k) ?_
    show Fin _ p e below s _ _ _ s₁ (mkF m 14 #[.val (.int p0), .val (.int p1), .val (.int p2), .val (.int (0 : Int32)), .unset, .unset, .unset, .unset, .unset, .unset, .unset] [(.int (1 : Int32)), (.int p2)])
    refine Fin.go (fun _ k => XT.iushr X0.here hx rfl (hb hby at_14) rfl k) ?_
    show Fin _ p e below s _ _ _ s₁ (mkF m 15 #[.val (.int p0), .val (.int p1), .val (.int p2), .val (.int (0 : Int32)), .unset, .unset, .unset, .unset, .unset, .unset, .unset] [(.int (XT.ushr p2 (1 : Int32)))])
    refine Fin.go (fun _ k => XS.iconst X0.here hx rfl (hb hby at_15) k) ?_
    show Fin _ p e below s _ _ _ s₁ (mkF m 16 #[.val (.int p0), .val (.int p1), .val (.int p2), .val (.int (0 : Int32)), .unset, .unset, .unset, .unset, .unset, .unset, .unset] [(.int (3 : Int32)), (.int (XT.ushr p2 (1 : Int32)))])
    refine Fin.go (fun _ k => XS.iand X0.here hx rfl (hb hby at_16) rfl k) ?_
    show Fin _ p e below s _ _ _ s₁ (mkF m 17 #[.val (.int p0), .val (.int p1), .val (.int p2), .val (.int (0 : Int32)), .unset, .unset, .unset, .unset, .unset, .unset, .unset] [(.int ((XT.ushr p2 (1 : Int32)) &&& (3 : Int32)))])
    refine Fin.go (fun _ k => XS.istore X0.here hx rfl (hb hby at_17) rfl (l' := #[.val (.int p0), .val (.int p1), .val (.int p2), .val (.int (0 : Int32)), .val (.int ((XT.ushr p2 (1 : Int32)) &&& (3 : Int32))), .unset, .unset, .unset, .unset, .unset, .unset]) rfl k) ?_
    show Fin _ p e below s _ _ _ s₁ (mkF m 19 #[.val (.int p0), .val (.int p1), .val (.int p2), .val (.int (0 : Int32)), .val (.int ((XT.ushr p2 (1 : Int32)) &&& (3 : Int32))), .unset, .unset, .unset, .unset, .unset, .unset] [])
    refine Fin.go (fun _ k => XS.iload X0.here hx rfl (hb hby at_19) rfl k) ?_
    show Fin _ p e below s _ _ _ s₁ (mkF m 21 #[.val (.int p0), .val (.int p1), .val (.int p2), .val (.int (0 : Int32)), .val (.int ((XT.ushr p2 (1 : Int32)) &&& (3 : Int32))), .unset, .unset, .unset, .unset, .unset, .unset] [(.int ((XT.ushr p2 (1 : Int32)) &&& (3 : Int32)))])
    refine Fin.go (fun _ k => XS.iconst X0.here hx rfl (hb hby at_21) k) ?_
    show Fin _ p e below s _ _ _ s₁ (mkF m 22 #[.val (.int p0), .val (.int p1), .val (.int p2), .val (.int (0 : Int32)), .val (.int ((XT.ushr p2 (1 : Int32)) &&& (3 : Int32))), .unset, .unset, .unset, .unset, .unset, .unset] [(.int (1 : Int32)), (.int ((XT.ushr p2 (1 : Int32)) &&& (3 : Int32)))])
    by_cases c22 : ((XT.ushr p2 (1 : Int32)) &&& (3 : Int32)) = (1 : Int32)
    · refine Fin.go (fun _ k => XS.icmpNo X0.here hx rfl (hb hby at_22) rfl (XT.ii_ne_f c22) k) ?_
      show Fin _ p e below s _ _ _ s₁ (mkF m 25 #[.val (.int p0), .val (.int p1), .val (.int p2), .val (.int (0 : Int32)), .val (.int ((XT.ushr p2 (1 : Int32)) &&& (3 : Int32))), .unset, .unset, .unset, .unset, .unset, .unset] [])
      refine Fin.go (fun _ k => XS.sipush X0.here hx rfl (hb hby at_25) k) ?_
      show Fin _ p e below s _ _ _ s₁ (mkF m 28 #[.val (.int p0), .val (.int p1), .val (.int p2), .val (.int (0 : Int32)), .val (.int ((XT.ushr p2 (1 : Int32)) &&& (3 : Int32))), .unset, .unset, .unset, .unset, .unset, .unset] [(.int (410 : Int32))])
      refine Fin.go (fun _ k => XS.istore X0.here hx rfl (hb hby at_28) rfl (l' := #[.val (.int p0), .val (.int p1), .val (.int p2), .val (.int (0 : Int32)), .val (.int ((XT.ushr p2 (1 : Int32)) &&& (3 : Int32))), .val (.int (410 : Int32)), .unset, .unset, .unset, .unset, .unset]) rfl k) ?_
      show Fin _ p e below s _ _ _ s₁ (mkF m 30 #[.val (.int p0), .val (.int p1), .val (.int p2), .val (.int (0 : Int32)), .val (.int ((XT.ushr p2 (1 : Int32)) &&& (3 : Int32))), .val (.int (410 : Int32)), .unset, .unset, .unset, .unset, .unset] [])
      refine Fin.go (fun _ k => XS.goto X0.here hx rfl (pc0 := 30) (pc' := 57) rfl (hb hby at_30) (by decide) (by decide) k) ?_
      show Fin _ p e below s _ _ _ s₁ (mkF m 57 #[.val (.int p0), .val (.int p1), .val (.int p2), .val (.int (0 : Int32)), .val (.int ((XT.ushr p2 (1 : Int32)) &&& (3 : Int32))), .val (.int (410 : Int32)), .unset, .unset, .unset, .unset, .unset] [])
      refine Fin.go (fun _ k => XS.iloadN X0.here hx rfl (hb hby at_57) rfl k) ?_
      show Fin _ p e below s _ _ _ s₁ (mkF m 58 #[.val (.int p0), .val (.int p1), .val (.int p2), .val (.int (0 : Int32)), .val (.int ((XT.ushr p2 (1 : Int32)) &&& (3 : Int32))), .val (.int (410 : Int32)), .unset, .unset, .unset, .unset, .unset] [(.int p2)])
      refine Fin.go (fun _ k => XS.bipush X0.here hx rfl (hb hby at_58) k) ?_
      show Fin _ p e below s _ _ _ s₁ (mkF m 60 #[.val (.int p0), .val (.int p1), .val (.int p2), .val (.int (0 : Int32)), .val (.int ((XT.ushr p2 (1 : Int32)) &&& (3 : Int32))), .val (.int (410 : Int32)), .unset, .unset, .unset, .unset, .unset] [(.int (8 : Int32)), (.int p2)])
      refine Fin.go (fun _ k => XS.iand X0.here hx rfl (hb hby at_60) rfl k) ?_
      show Fin _ p e below s _ _ _ s₁ (mkF m 61 #[.val (.int p0), .val (.int p1), .val (.int p2), .val (.int (0 : Int32)), .val (.int ((XT.ushr p2 (1 : Int32)) &&& (3 : Int32))), .val (.int (410 : Int32)), .unset, .unset, .unset, .unset, .unset] [(.int (p2 &&& (8 : Int32)))])
      by_cases c61 : (p2 &&& (8 : Int32)) = 0
      · refine Fin.go (fun _ k => XS.ifYes X0.here hx rfl (pc0 := 61) (pc' := 75) rfl (hb hby at_61) rfl (XT.i0_eq_t c61) (by decide) (by decide) k) ?_
        show Fin _ p e below s _ _ _ s₁ (mkF m 75 #[.val (.int p0), .val (.int p1), .val (.int p2), .val (.int (0 : Int32)), .val (.int ((XT.ushr p2 (1 : Int32)) &&& (3 : Int32))), .val (.int (410 : Int32)), .unset, .unset, .unset, .unset, .unset] [])
        refine Fin.go (fun _ k => XS.iloadN X0.here hx rfl (hb hby at_75) rfl k) ?_
        show Fin _ p e below s _ _ _ s₁ (mkF m 76 #[.val (.int p0), .val (.int p1), .val (.int p2), .val (.int (0 : Int32)), .val (.int ((XT.ushr p2 (1 : Int32)) &&& (3 : Int32))), .val (.int (410 : Int32)), .unset, .unset, .unset, .unset, .unset] [(.int p1)])
        refine Fin.go (fun _ k => XS.istore X0.here hx rfl (hb hby at_76) rfl (l' := #[.val (.int p0), .val (.int p1), .val (.int p2), .val (.int (0 : Int32)), .val (.int ((XT.ushr p2 (1 : Int32)) &&& (3 : Int32))), .val (.int (410 : Int32)), .val (.int p1), .unset, .unset, .unset, .unset]) rfl k) ?_
        show Fin _ p e below s _ _ _ s₁ (mkF m 78 #[.val (.int p0), .val (.int p1), .val (.int p2), .val (.int (0 : Int32)), .val (.int ((XT.ushr p2 (1 : Int32)) &&& (3 : Int32))), .val (.int (410 : Int32)), .val (.int p1), .unset, .unset, .unset, .unset] [])
        exact tail (0 : Int32) ((XT.ushr p2 (1 : Int32)) &&& (3 : Int32)) (410 : Int32) p1
      · refine Fin.go (fun _ k => XS.ifNo X0.here hx rfl (hb hby at_61) rfl (XT.i0_eq_f c61) k) ?_
        show Fin _ p e below s _ _ _ s₁ (mkF m 64 #[.val (.int p0), .val (.int p1), .val (.int p2), .val (.int (0 : Int32)), .val (.int ((XT.ushr p2 (1 : Int32)) &&& (3 : Int32))), .val (.int (410 : Int32)), .unset, .unset, .unset, .unset, .unset] [])
        refine Fin.go (fun _ k => XS.bipush X0.here hx rfl (hb hby at_64) k) ?_
        show Fin _ p e below s _ _ _ s₁ (mkF m 66 #[.val (.int p0), .val (.int p1), .val (.int p2), .val (.int (0 : Int32)), .val (.int ((XT.ushr p2 (1 : Int32)) &&& (3 : Int32))), .val (.int (410 : Int32)), .unset, .unset, .unset, .unset, .unset] [(.int (9 : Int32))])
        refine Fin.go (fun _ k => XS.iloadN X0.here hx rfl (hb hby at_66) rfl k) ?_
        show Fin _ p e below s _ _ _ s₁ (mkF m 67 #[.val (.int p0), .val (.int p1), .val (.int p2), .val (.int (0 : Int32)), .val (.int ((XT.ushr p2 (1 : Int32)) &&& (3 : Int32))), .val (.int (410 : Int32)), .unset, .unset, .unset, .unset, .unset] [(.int p1), (.int (9 : Int32))])
        refine Fin.go (fun _ k => XS.iconst X0.here hx rfl (hb hby at_67) k) ?_
        show Fin _ p e below s _ _ _ s₁ (mkF m 68 #[.val (.int p0), .val (.int p1), .val (.int p2), .val (.int (0 : Int32)), .val (.int ((XT.ushr p2 (1 : Int32)) &&& (3 : Int32))), .val (.int (410 : Int32)), .unset, .unset, .unset, .unset, .unset] [(.int (3 : Int32)), (.int p1), (.int (9 : Int32))])
        refine Fin.go (fun _ k => XS.iand X0.here hx rfl (hb hby at_68) rfl k) ?_
        show Fin _ p e below s _ _ _ s₁ (mkF m 69 #[.val (.int p0), .val (.int p1), .val (.int p2), .val (.int (0 : Int32)), .val (.int ((XT.ushr p2 (1 : Int32)) &&& (3 : Int32))), .val (.int (410 : Int32)), .unset, .unset, .unset, .unset, .unset] [(.int (p1 &&& (3 : Int32))), (.int (9 : Int32))])
        refine Fin.go (fun _ k => XS.iadd X0.here hx rfl (hb hby at_69) rfl k) ?_
        show Fin _ p e below s _ _ _ s₁ (mkF m 70 #[.val (.int p0), .val (.int p1), .val (.int p2), .val (.int (0 : Int32)), .val (.int ((XT.ushr p2 (1 : Int32)) &&& (3 : Int32))), .val (.int (410 : Int32)), .unset, .unset, .unset, .unset, .unset] [(.int ((9 : Int32) + (p1 &&& (3 : Int32))))])
        refine Fin.go (fun _ k => XS.istore X0.here hx rfl (hb hby at_70) rfl (l' := #[.val (.int p0), .val (.int p1), .val (.int p2), .val (.int (0 : Int32)), .val (.int ((XT.ushr p2 (1 : Int32)) &&& (3 : Int32))), .val (.int (410 : Int32)), .val (.int ((9 : Int32) + (p1 &&& (3 : Int32)))), .unset, .unset, .unset, .unset]) rfl k) ?_
        show Fin _ p e below s _ _ _ s₁ (mkF m 72 #[.val (.int p0), .val (.int p1), .val (.int p2), .val (.int (0 : Int32)), .val (.int ((XT.ushr p2 (1 : Int32)) &&& (3 : Int32))), .val (.int (410 : Int32)), .val (.int ((9 : Int32) + (p1 &&& (3 : Int32)))), .unset, .unset, .unset, .unset] [])
        refine Fin.go (fun _ k => XS.goto X0.here hx rfl (pc0 := 72) (pc' := 78) rfl (hb hby at_72) (by decide) (by decide) k) ?_
        show Fin _ p e below s _ _ _ s₁ (mkF m 78 #[.val (.int p0), .val (.int p1), .val (.int p2), .val (.int (0 : Int32)), .val (.int ((XT.ushr p2 (1 : Int32)) &&& (3 : Int32))), .val (.int (410 : Int32)), .val (.int ((9 : Int32) + (p1 &&& (3 : Int32)))), .unset, .unset, .unset, .unset] [])
        exact tail (0 : Int32) ((XT.ushr p2 (1 : Int32)) &&& (3 : Int32)) (410 : Int32) ((9 : Int32) + (p1 &&& (3 : Int32)))
    · refine Fin.go (fun _ k => XS.icmpYes X0.here hx rfl (pc0 := 22) (pc' := 33) rfl (hb hby at_22) rfl (XT.ii_ne_t c22) (by decide) (by decide) k) ?_
      show Fin _ p e below s _ _ _ s₁ (mkF m 33 #[.val (.int p0), .val (.int p1), .val (.int p2), .val (.int (0 : Int32)), .val (.int ((XT.ushr p2 (1 : Int32)) &&& (3 : Int32))), .unset, .unset, .unset, .unset, .unset, .unset] [])
      refine Fin.go (fun _ k => XS.iload X0.here hx rfl (hb hby at_33) rfl k) ?_
      show Fin _ p e below s _ _ _ s₁ (mkF m 35 #[.val (.int p0), .val (.int p1), .val (.int p2), .val (.int (0 : Int32)), .val (.int ((XT.ushr p2 (1 : Int32)) &&& (3 : Int32))), .unset, .unset, .unset, .unset, .unset, .unset] [(.int ((XT.ushr p2 (1 : Int32)) &&& (3 : Int32)))])
      refine Fin.go (fun _ k => XS.iconst X0.here hx rfl (hb hby at_35) k) ?_
      show Fin _ p e below s _ _ _ s₁ (mkF m 36 #[.val (.int p0), .val (.int p1), .val (.int p2), .val (.int (0 : Int32)), .val (.int ((XT.ushr p2 (1 : Int32)) &&& (3 : Int32))), .unset, .unset, .unset, .unset, .unset, .unset] [(.int (2 : Int32)), (.int ((XT.ushr p2 (1 : Int32)) &&& (3 : Int32)))])
      by_cases c36 : ((XT.ushr p2 (1 : Int32)) &&& (3 : Int32)) = (2 : Int32)
      · refine Fin.go (fun _ k => XS.icmpNo X0.here hx rfl (hb hby at_36) rfl (XT.ii_ne_f c36) k) ?_
        show Fin _ p e below s _ _ _ s₁ (mkF m 39 #[.val (.int p0), .val (.int p1), .val (.int p2), .val (.int (0 : Int32)), .val (.int ((XT.ushr p2 (1 : Int32)) &&& (3 : Int32))), .unset, .unset, .unset, .unset, .unset, .unset] [])
        refine Fin.go (fun _ k => XS.sipush X0.here hx rfl (hb hby at_39) k) ?_
        show Fin _ p e below s _ _ _ s₁ (mkF m 42 #[.val (.int p0), .val (.int p1), .val (.int p2), .val (.int (0 : Int32)), .val (.int ((XT.ushr p2 (1 : Int32)) &&& (3 : Int32))), .unset, .unset, .unset, .unset, .unset, .unset] [(.int (409 : Int32))])
        refine Fin.go (fun _ k => XS.iloadN X0.here hx rfl (hb hby at_42) rfl k) ?_
        show Fin _ p e below s _ _ _ s₁ (mkF m 43 #[.val (.int p0), .val (.int p1), .val (.int p2), .val (.int (0 : Int32)), .val (.int ((XT.ushr p2 (1 : Int32)) &&& (3 : Int32))), .unset, .unset, .unset, .unset, .unset, .unset] [(.int p0), (.int (409 : Int32))])
        refine Fin.go (fun _ k => X0.ldcI hx hown (mvT hZ (hw _ w_39)) rfl (hb hby at_43) k) ?_
        show Fin _ p e below s _ _ _ s₁ (mkF m 45 #[.val (.int p0), .val (.int p1), .val (.int p2), .val (.int (0 : Int32)), .val (.int ((XT.ushr p2 (1 : Int32)) &&& (3 : Int32))), .unset, .unset, .unset, .unset, .unset, .unset] [(.int (2147483647 : Int32)), (.int p0), (.int (409 : Int32))])
        refine Fin.go (fun _ k => XS.iand X0.here hx rfl (hb hby at_45) rfl k) ?_
        show Fin _ p e below s _ _ _ s₁ (mkF m 46 #[.val (.int p0), .val (.int p1), .val (.int p2), .val (.int (0 : Int32)), .val (.int ((XT.ushr p2 (1 : Int32)) &&& (3 : Int32))), .unset, .unset, .unset, .unset, .unset, .unset] [(.int (p0 &&& (2147483647 : Int32))), (.int (409 : Int32))])
        refine Fin.go (fun _ k => XS.iconst X0.here hx rfl (hb hby at_46) k) ?_
        show Fin _ p e below s _ _ _ s₁ (mkF m 47 #[.val (.int p0), .val (.int p1), .val (.int p2), .val (.int (0 : Int32)), .val (.int ((XT.ushr p2 (1 : Int32)) &&& (3 : Int32))), .unset, .unset, .unset, .unset, .unset, .unset] [(.int (3 : Int32)), (.int (p0 &&& (2147483647 : Int32))), (.int (409 : Int32))])
        refine Fin.go (fun _ k => iremM X0 hx rfl (hb hby at_47) rfl (by decide) k) ?_
        show Fin _ p e below s _ _ _ s₁ (mkF m 48 #[.val (.int p0), .val (.int p1), .val (.int p2), .val (.int (0 : Int32)), .val (.int ((XT.ushr p2 (1 : Int32)) &&& (3 : Int32))), .unset, .unset, .unset, .unset, .unset, .unset] [(.int ((p0 &&& (2147483647 : Int32)) % (3 : Int32))), (.int (409 : Int32))])
        refine Fin.go (fun _ k => XS.iadd X0.here hx rfl (hb hby at_48) rfl k) ?_
        show Fin _ p e below s _ _ _ s₁ (mkF m 49 #[.val (.int p0), .val (.int p1), .val (.int p2), .val (.int (0 : Int32)), .val (.int ((XT.ushr p2 (1 : Int32)) &&& (3 : Int32))), .unset, .unset, .unset, .unset, .unset, .unset] [(.int ((409 : Int32) + ((p0 &&& (2147483647 : Int32)) % (3 : Int32))))])
        refine Fin.go (fun _ k => XS.istore X0.here hx rfl (hb hby at_49) rfl (l' := #[.val (.int p0), .val (.int p1), .val (.int p2), .val (.int (0 : Int32)), .val (.int ((XT.ushr p2 (1 : Int32)) &&& (3 : Int32))), .val (.int ((409 : Int32) + ((p0 &&& (2147483647 : Int32)) % (3 : Int32)))), .unset, .unset, .unset, .unset, .unset]) rfl k) ?_
        show Fin _ p e below s _ _ _ s₁ (mkF m 51 #[.val (.int p0), .val (.int p1), .val (.int p2), .val (.int (0 : Int32)), .val (.int ((XT.ushr p2 (1 : Int32)) &&& (3 : Int32))), .val (.int ((409 : Int32) + ((p0 &&& (2147483647 : Int32)) % (3 : Int32)))), .unset, .unset, .unset, .unset, .unset] [])
        refine Fin.go (fun _ k => XS.goto X0.here hx rfl (pc0 := 51) (pc' := 57) rfl (hb hby at_51) (by decide) (by decide) k) ?_
        show Fin _ p e below s _ _ _ s₁ (mkF m 57 #[.val (.int p0), .val (.int p1), .val (.int p2), .val (.int (0 : Int32)), .val (.int ((XT.ushr p2 (1 : Int32)) &&& (3 : Int32))), .val (.int ((409 : Int32) + ((p0 &&& (2147483647 : Int32)) % (3 : Int32)))), .unset, .unset, .unset, .unset, .unset] [])
        refine Fin.go (fun _ k => XS.iloadN X0.here hx rfl (hb hby at_57) rfl k) ?_
        show Fin _ p e below s _ _ _ s₁ (mkF m 58 #[.val (.int p0), .val (.int p1), .val (.int p2), .val (.int (0 : Int32)), .val (.int ((XT.ushr p2 (1 : Int32)) &&& (3 : Int32))), .val (.int ((409 : Int32) + ((p0 &&& (2147483647 : Int32)) % (3 : Int32)))), .unset, .unset, .unset, .unset, .unset] [(.int p2)])
        refine Fin.go (fun _ k => XS.bipush X0.here hx rfl (hb hby at_58) k) ?_
        show Fin _ p e below s _ _ _ s₁ (mkF m 60 #[.val (.int p0), .val (.int p1), .val (.int p2), .val (.int (0 : Int32)), .val (.int ((XT.ushr p2 (1 : Int32)) &&& (3 : Int32))), .val (.int ((409 : Int32) + ((p0 &&& (2147483647 : Int32)) % (3 : Int32)))), .unset, .unset, .unset, .unset, .unset] [(.int (8 : Int32)), (.int p2)])
        refine Fin.go (fun _ k => XS.iand X0.here hx rfl (hb hby at_60) rfl k) ?_
        show Fin _ p e below s _ _ _ s₁ (mkF m 61 #[.val (.int p0), .val (.int p1), .val (.int p2), .val (.int (0 : Int32)), .val (.int ((XT.ushr p2 (1 : Int32)) &&& (3 : Int32))), .val (.int ((409 : Int32) + ((p0 &&& (2147483647 : Int32)) % (3 : Int32)))), .unset, .unset, .unset, .unset, .unset] [(.int (p2 &&& (8 : Int32)))])
        by_cases c61 : (p2 &&& (8 : Int32)) = 0
        · refine Fin.go (fun _ k => XS.ifYes X0.here hx rfl (pc0 := 61) (pc' := 75) rfl (hb hby at_61) rfl (XT.i0_eq_t c61) (by decide) (by decide) k) ?_
          show Fin _ p e below s _ _ _ s₁ (mkF m 75 #[.val (.int p0), .val (.int p1), .val (.int p2), .val (.int (0 : Int32)), .val (.int ((XT.ushr p2 (1 : Int32)) &&& (3 : Int32))), .val (.int ((409 : Int32) + ((p0 &&& (2147483647 : Int32)) % (3 : Int32)))), .unset, .unset, .unset, .unset, .unset] [])
          refine Fin.go (fun _ k => XS.iloadN X0.here hx rfl (hb hby at_75) rfl k) ?_
          show Fin _ p e below s _ _ _ s₁ (mkF m 76 #[.val (.int p0), .val (.int p1), .val (.int p2), .val (.int (0 : Int32)), .val (.int ((XT.ushr p2 (1 : Int32)) &&& (3 : Int32))), .val (.int ((409 : Int32) + ((p0 &&& (2147483647 : Int32)) % (3 : Int32)))), .unset, .unset, .unset, .unset, .unset] [(.int p1)])
          refine Fin.go (fun _ k => XS.istore X0.here hx rfl (hb hby at_76) rfl (l' := #[.val (.int p0), .val (.int p1), .val (.int p2), .val (.int (0 : Int32)), .val (.int ((XT.ushr p2 (1 : Int32)) &&& (3 : Int32))), .val (.int ((409 : Int32) + ((p0 &&& (2147483647 : Int32)) % (3 : Int32)))), .val (.int p1), .unset, .unset, .unset, .unset]) rfl k) ?_
          show Fin _ p e below s _ _ _ s₁ (mkF m 78 #[.val (.int p0), .val (.int p1), .val (.int p2), .val (.int (0 : Int32)), .val (.int ((XT.ushr p2 (1 : Int32)) &&& (3 : Int32))), .val (.int ((409 : Int32) + ((p0 &&& (2147483647 : Int32)) % (3 : Int32)))), .val (.int p1), .unset, .unset, .unset, .unset] [])
          exact tail (0 : Int32) ((XT.ushr p2 (1 : Int32)) &&& (3 : Int32)) ((409 : Int32) + ((p0 &&& (2147483647 : Int32)) % (3 : Int32))) p1
        · refine Fin.go (fun _ k => XS.ifNo X0.here hx rfl (hb hby at_61) rfl (XT.i0_eq_f c61) k) ?_
          show Fin _ p e below s _ _ _ s₁ (mkF m 64 #[.val (.int p0), .val (.int p1), .val (.int p2), .val (.int (0 : Int32)), .val (.int ((XT.ushr p2 (1 : Int32)) &&& (3 : Int32))), .val (.int ((409 : Int32) + ((p0 &&& (2147483647 : Int32)) % (3 : Int32)))), .unset, .unset, .unset, .unset, .unset] [])
          refine Fin.go (fun _ k => XS.bipush X0.here hx rfl (hb hby at_64) k) ?_
          show Fin _ p e below s _ _ _ s₁ (mkF m 66 #[.val (.int p0), .val (.int p1), .val (.int p2), .val (.int (0 : Int32)), .val (.int ((XT.ushr p2 (1 : Int32)) &&& (3 : Int32))), .val (.int ((409 : Int32) + ((p0 &&& (2147483647 : Int32)) % (3 : Int32)))), .unset, .unset, .unset, .unset, .unset] [(.int (9 : Int32))])
          refine Fin.go (fun _ k => XS.iloadN X0.here hx rfl (hb hby at_66) rfl k) ?_
          show Fin _ p e below s _ _ _ s₁ (mkF m 67 #[.val (.int p0), .val (.int p1), .val (.int p2), .val (.int (0 : Int32)), .val (.int ((XT.ushr p2 (1 : Int32)) &&& (3 : Int32))), .val (.int ((409 : Int32) + ((p0 &&& (2147483647 : Int32)) % (3 : Int32)))), .unset, .unset, .unset, .unset, .unset] [(.int p1), (.int (9 : Int32))])
          refine Fin.go (fun _ k => XS.iconst X0.here hx rfl (hb hby at_67) k) ?_
          show Fin _ p e below s _ _ _ s₁ (mkF m 68 #[.val (.int p0), .val (.int p1), .val (.int p2), .val (.int (0 : Int32)), .val (.int ((XT.ushr p2 (1 : Int32)) &&& (3 : Int32))), .val (.int ((409 : Int32) + ((p0 &&& (2147483647 : Int32)) % (3 : Int32)))), .unset, .unset, .unset, .unset, .unset] [(.int (3 : Int32)), (.int p1), (.int (9 : Int32))])
          refine Fin.go (fun _ k => XS.iand X0.here hx rfl (hb hby at_68) rfl k) ?_
          show Fin _ p e below s _ _ _ s₁ (mkF m 69 #[.val (.int p0), .val (.int p1), .val (.int p2), .val (.int (0 : Int32)), .val (.int ((XT.ushr p2 (1 : Int32)) &&& (3 : Int32))), .val (.int ((409 : Int32) + ((p0 &&& (2147483647 : Int32)) % (3 : Int32)))), .unset, .unset, .unset, .unset, .unset] [(.int (p1 &&& (3 : Int32))), (.int (9 : Int32))])
          refine Fin.go (fun _ k => XS.iadd X0.here hx rfl (hb hby at_69) rfl k) ?_
          show Fin _ p e below s _ _ _ s₁ (mkF m 70 #[.val (.int p0), .val (.int p1), .val (.int p2), .val (.int (0 : Int32)), .val (.int ((XT.ushr p2 (1 : Int32)) &&& (3 : Int32))), .val (.int ((409 : Int32) + ((p0 &&& (2147483647 : Int32)) % (3 : Int32)))), .unset, .unset, .unset, .unset, .unset] [(.int ((9 : Int32) + (p1 &&& (3 : Int32))))])
          refine Fin.go (fun _ k => XS.istore X0.here hx rfl (hb hby at_70) rfl (l' := #[.val (.int p0), .val (.int p1), .val (.int p2), .val (.int (0 : Int32)), .val (.int ((XT.ushr p2 (1 : Int32)) &&& (3 : Int32))), .val (.int ((409 : Int32) + ((p0 &&& (2147483647 : Int32)) % (3 : Int32)))), .val (.int ((9 : Int32) + (p1 &&& (3 : Int32)))), .unset, .unset, .unset, .unset]) rfl k) ?_
          show Fin _ p e below s _ _ _ s₁ (mkF m 72 #[.val (.int p0), .val (.int p1), .val (.int p2), .val (.int (0 : Int32)), .val (.int ((XT.ushr p2 (1 : Int32)) &&& (3 : Int32))), .val (.int ((409 : Int32) + ((p0 &&& (2147483647 : Int32)) % (3 : Int32)))), .val (.int ((9 : Int32) + (p1 &&& (3 : Int32)))), .unset, .unset, .unset, .unset] [])
          refine Fin.go (fun _ k => XS.goto X0.here hx rfl (pc0 := 72) (pc' := 78) rfl (hb hby at_72) (by decide) (by decide) k) ?_
          show Fin _ p e below s _ _ _ s₁ (mkF m 78 #[.val (.int p0), .val (.int p1), .val (.int p2), .val (.int (0 : Int32)), .val (.int ((XT.ushr p2 (1 : Int32)) &&& (3 : Int32))), .val (.int ((409 : Int32) + ((p0 &&& (2147483647 : Int32)) % (3 : Int32)))), .val (.int ((9 : Int32) + (p1 &&& (3 : Int32)))), .unset, .unset, .unset, .unset] [])
          exact tail (0 : Int32) ((XT.ushr p2 (1 : Int32)) &&& (3 : Int32)) ((409 : Int32) + ((p0 &&& (2147483647 : Int32)) % (3 : Int32))) ((9 : Int32) + (p1 &&& (3 : Int32)))
      · refine Fin.go (fun _ k => XS.icmpYes X0.here hx rfl (pc0 := 36) (pc' := 54) rfl (hb hby at_36) rfl (XT.ii_ne_t c36) (by decide) (by decide) k) ?_
        show Fin _ p e below s _ _ _ s₁ (mkF m 54 #[.val (.int p0), .val (.int p1), .val (.int p2), .val (.int (0 : Int32)), .val (.int ((XT.ushr p2 (1 : Int32)) &&& (3 : Int32))), .unset, .unset, .unset, .unset, .unset, .unset] [])
        refine Fin.go (fun _ k => XS.iloadN X0.here hx rfl (hb hby at_54) rfl k) ?_
        show Fin _ p e below s _ _ _ s₁ (mkF m 55 #[.val (.int p0), .val (.int p1), .val (.int p2), .val (.int (0 : Int32)), .val (.int ((XT.ushr p2 (1 : Int32)) &&& (3 : Int32))), .unset, .unset, .unset, .unset, .unset, .unset] [(.int p0)])
        refine Fin.go (fun _ k => XS.istore X0.here hx rfl (hb hby at_55) rfl (l' := #[.val (.int p0), .val (.int p1), .val (.int p2), .val (.int (0 : Int32)), .val (.int ((XT.ushr p2 (1 : Int32)) &&& (3 : Int32))), .val (.int p0), .unset, .unset, .unset, .unset, .unset]) rfl k) ?_
        show Fin _ p e below s _ _ _ s₁ (mkF m 57 #[.val (.int p0), .val (.int p1), .val (.int p2), .val (.int (0 : Int32)), .val (.int ((XT.ushr p2 (1 : Int32)) &&& (3 : Int32))), .val (.int p0), .unset, .unset, .unset, .unset, .unset] [])
        refine Fin.go (fun _ k => XS.iloadN X0.here hx rfl (hb hby at_57) rfl k) ?_
        show Fin _ p e below s _ _ _ s₁ (mkF m 58 #[.val (.int p0), .val (.int p1), .val (.int p2), .val (.int (0 : Int32)), .val (.int ((XT.ushr p2 (1 : Int32)) &&& (3 : Int32))), .val (.int p0), .unset, .unset, .unset, .unset, .unset] [(.int p2)])
        refine Fin.go (fun _ k => XS.bipush X0.here hx rfl (hb hby at_58) k) ?_
        show Fin _ p e below s _ _ _ s₁ (mkF m 60 #[.val (.int p0), .val (.int p1), .val (.int p2), .val (.int (0 : Int32)), .val (.int ((XT.ushr p2 (1 : Int32)) &&& (3 : Int32))), .val (.int p0), .unset, .unset, .unset, .unset, .unset] [(.int (8 : Int32)), (.int p2)])
        refine Fin.go (fun _ k => XS.iand X0.here hx rfl (hb hby at_60) rfl k) ?_
        show Fin _ p e below s _ _ _ s₁ (mkF m 61 #[.val (.int p0), .val (.int p1), .val (.int p2), .val (.int (0 : Int32)), .val (.int ((XT.ushr p2 (1 : Int32)) &&& (3 : Int32))), .val (.int p0), .unset, .unset, .unset, .unset, .unset] [(.int (p2 &&& (8 : Int32)))])
        by_cases c61 : (p2 &&& (8 : Int32)) = 0
        · refine Fin.go (fun _ k => XS.ifYes X0.here hx rfl (pc0 := 61) (pc' := 75) rfl (hb hby at_61) rfl (XT.i0_eq_t c61) (by decide) (by decide) k) ?_
          show Fin _ p e below s _ _ _ s₁ (mkF m 75 #[.val (.int p0), .val (.int p1), .val (.int p2), .val (.int (0 : Int32)), .val (.int ((XT.ushr p2 (1 : Int32)) &&& (3 : Int32))), .val (.int p0), .unset, .unset, .unset, .unset, .unset] [])
          refine Fin.go (fun _ k => XS.iloadN X0.here hx rfl (hb hby at_75) rfl k) ?_
          show Fin _ p e below s _ _ _ s₁ (mkF m 76 #[.val (.int p0), .val (.int p1), .val (.int p2), .val (.int (0 : Int32)), .val (.int ((XT.ushr p2 (1 : Int32)) &&& (3 : Int32))), .val (.int p0), .unset, .unset, .unset, .unset, .unset] [(.int p1)])
          refine Fin.go (fun _ k => XS.istore X0.here hx rfl (hb hby at_76) rfl (l' := #[.val (.int p0), .val (.int p1), .val (.int p2), .val (.int (0 : Int32)), .val (.int ((XT.ushr p2 (1 : Int32)) &&& (3 : Int32))), .val (.int p0), .val (.int p1), .unset, .unset, .unset, .unset]) rfl k) ?_
          show Fin _ p e below s _ _ _ s₁ (mkF m 78 #[.val (.int p0), .val (.int p1), .val (.int p2), .val (.int (0 : Int32)), .val (.int ((XT.ushr p2 (1 : Int32)) &&& (3 : Int32))), .val (.int p0), .val (.int p1), .unset, .unset, .unset, .unset] [])
          exact tail (0 : Int32) ((XT.ushr p2 (1 : Int32)) &&& (3 : Int32)) p0 p1
        · refine Fin.go (fun _ k => XS.ifNo X0.here hx rfl (hb hby at_61) rfl (XT.i0_eq_f c61) k) ?_
          show Fin _ p e below s _ _ _ s₁ (mkF m 64 #[.val (.int p0), .val (.int p1), .val (.int p2), .val (.int (0 : Int32)), .val (.int ((XT.ushr p2 (1 : Int32)) &&& (3 : Int32))), .val (.int p0), .unset, .unset, .unset, .unset, .unset] [])
          refine Fin.go (fun _ k => XS.bipush X0.here hx rfl (hb hby at_64) k) ?_
          show Fin _ p e below s _ _ _ s₁ (mkF m 66 #[.val (.int p0), .val (.int p1), .val (.int p2), .val (.int (0 : Int32)), .val (.int ((XT.ushr p2 (1 : Int32)) &&& (3 : Int32))), .val (.int p0), .unset, .unset, .unset, .unset, .unset] [(.int (9 : Int32))])
          refine Fin.go (fun _ k => XS.iloadN X0.here hx rfl (hb hby at_66) rfl k) ?_
          show Fin _ p e below s _ _ _ s₁ (mkF m 67 #[.val (.int p0), .val (.int p1), .val (.int p2), .val (.int (0 : Int32)), .val (.int ((XT.ushr p2 (1 : Int32)) &&& (3 : Int32))), .val (.int p0), .unset, .unset, .unset, .unset, .unset] [(.int p1), (.int (9 : Int32))])
          refine Fin.go (fun _ k => XS.iconst X0.here hx rfl (hb hby at_67) k) ?_
          show Fin _ p e below s _ _ _ s₁ (mkF m 68 #[.val (.int p0), .val (.int p1), .val (.int p2), .val (.int (0 : Int32)), .val (.int ((XT.ushr p2 (1 : Int32)) &&& (3 : Int32))), .val (.int p0), .unset, .unset, .unset, .unset, .unset] [(.int (3 : Int32)), (.int p1), (.int (9 : Int32))])
          refine Fin.go (fun _ k => XS.iand X0.here hx rfl (hb hby at_68) rfl k) ?_
          show Fin _ p e below s _ _ _ s₁ (mkF m 69 #[.val (.int p0), .val (.int p1), .val (.int p2), .val (.int (0 : Int32)), .val (.int ((XT.ushr p2 (1 : Int32)) &&& (3 : Int32))), .val (.int p0), .unset, .unset, .unset, .unset, .unset] [(.int (p1 &&& (3 : Int32))), (.int (9 : Int32))])
          refine Fin.go (fun _ k => XS.iadd X0.here hx rfl (hb hby at_69) rfl k) ?_
          show Fin _ p e below s _ _ _ s₁ (mkF m 70 #[.val (.int p0), .val (.int p1), .val (.int p2), .val (.int (0 : Int32)), .val (.int ((XT.ushr p2 (1 : Int32)) &&& (3 : Int32))), .val (.int p0), .unset, .unset, .unset, .unset, .unset] [(.int ((9 : Int32) + (p1 &&& (3 : Int32))))])
          refine Fin.go (fun _ k => XS.istore X0.here hx rfl (hb hby at_70) rfl (l' := #[.val (.int p0), .val (.int p1), .val (.int p2), .val (.int (0 : Int32)), .val (.int ((XT.ushr p2 (1 : Int32)) &&& (3 : Int32))), .val (.int p0), .val (.int ((9 : Int32) + (p1 &&& (3 : Int32)))), .unset, .unset, .unset, .unset]) rfl k) ?_
          show Fin _ p e below s _ _ _ s₁ (mkF m 72 #[.val (.int p0), .val (.int p1), .val (.int p2), .val (.int (0 : Int32)), .val (.int ((XT.ushr p2 (1 : Int32)) &&& (3 : Int32))), .val (.int p0), .val (.int ((9 : Int32) + (p1 &&& (3 : Int32)))), .unset, .unset, .unset, .unset] [])
          refine Fin.go (fun _ k => XS.goto X0.here hx rfl (pc0 := 72) (pc' := 78) rfl (hb hby at_72) (by decide) (by decide) k) ?_
          show Fin _ p e below s _ _ _ s₁ (mkF m 78 #[.val (.int p0), .val (.int p1), .val (.int p2), .val (.int (0 : Int32)), .val (.int ((XT.ushr p2 (1 : Int32)) &&& (3 : Int32))), .val (.int p0), .val (.int ((9 : Int32) + (p1 &&& (3 : Int32)))), .unset, .unset, .unset, .unset] [])
          exact tail (0 : Int32) ((XT.ushr p2 (1 : Int32)) &&& (3 : Int32)) p0 ((9 : Int32) + (p1 &&& (3 : Int32)))
  · refine Fin.go (fun _ k => XS.ifNo X0.here hx rfl (hb hby at_3) rfl (XT.i0_eq_f c3) k) ?_
    show Fin _ p e below s _ _ _ s₁ (mkF m 6 #[.val (.int p0), .val (.int p1), .val (.int p2), .unset, .unset, .unset, .unset, .unset, .unset, .unset, .unset] [])
    refine Fin.go (fun _ k => XS.iconst X0.here hx rfl (hb hby at_6) k) ?_
    show Fin _ p e below s _ _ _ s₁ (mkF m 7 #[.val (.int p0), .val (.int p1), .val (.int p2), .unset, .unset, .unset, .unset, .unset, .unset, .unset, .unset] [(.int (1 : Int32))])
    refine Fin.go (fun _ k => XS.goto X0.here hx rfl (pc0 := 7) (pc' := 11) rfl (hb hby at_7) (by decide) (by decide) k) ?_
    show Fin _ p e below s _ _ _ s₁ (mkF m 11 #[.val (.int p0), .val (.int p1), .val (.int p2), .unset, .unset, .unset, .unset, .unset, .unset, .unset, .unset] [(.int (1 : Int32))])
    refine Fin.go (fun _ k => XS.istoreN X0.here hx rfl (hb hby at_11) rfl (l' := #[.val (.int p0), .val (.int p1), .val (.int p2), .val (.int (1 : Int32)), .unset, .unset, .unset, .unset, .unset, .unset, .unset]) rfl k) ?_
    show Fin _ p e below s _ _ _ s₁ (mkF m 12 #[.val (.int p0), .val (.int p1), .val (.int p2), .val (.int (1 : Int32)), .unset, .unset, .unset, .unset, .unset, .unset, .unset] [])
    refine Fin.go (fun _ k => XS.iloadN X0.here hx rfl (hb hby at_12) rfl k) ?_
    show Fin _ p e below s _ _ _ s₁ (mkF m 13 #[.val (.int p0), .val (.int p1), .val (.int p2), .val (.int (1 : Int32)), .unset, .unset, .unset, .unset, .unset, .unset, .unset] [(.int p2)])
    refine Fin.go (fun _ k => XS.iconst X0.here hx rfl (hb hby at_13) k) ?_
    show Fin _ p e below s _ _ _ s₁ (mkF m 14 #[.val (.int p0), .val (.int p1), .val (.int p2), .val (.int (1 : Int32)), .unset, .unset, .unset, .unset, .unset, .unset, .unset] [(.int (1 : Int32)), (.int p2)])
    refine Fin.go (fun _ k => XT.iushr X0.here hx rfl (hb hby at_14) rfl k) ?_
    show Fin _ p e below s _ _ _ s₁ (mkF m 15 #[.val (.int p0), .val (.int p1), .val (.int p2), .val (.int (1 : Int32)), .unset, .unset, .unset, .unset, .unset, .unset, .unset] [(.int (XT.ushr p2 (1 : Int32)))])
    refine Fin.go (fun _ k => XS.iconst X0.here hx rfl (hb hby at_15) k) ?_
    show Fin _ p e below s _ _ _ s₁ (mkF m 16 #[.val (.int p0), .val (.int p1), .val (.int p2), .val (.int (1 : Int32)), .unset, .unset, .unset, .unset, .unset, .unset, .unset] [(.int (3 : Int32)), (.int (XT.ushr p2 (1 : Int32)))])
    refine Fin.go (fun _ k => XS.iand X0.here hx rfl (hb hby at_16) rfl k) ?_
    show Fin _ p e below s _ _ _ s₁ (mkF m 17 #[.val (.int p0), .val (.int p1), .val (.int p2), .val (.int (1 : Int32)), .unset, .unset, .unset, .unset, .unset, .unset, .unset] [(.int ((XT.ushr p2 (1 : Int32)) &&& (3 : Int32)))])
    refine Fin.go (fun _ k => XS.istore X0.here hx rfl (hb hby at_17) rfl (l' := #[.val (.int p0), .val (.int p1), .val (.int p2), .val (.int (1 : Int32)), .val (.int ((XT.ushr p2 (1 : Int32)) &&& (3 : Int32))), .unset, .unset, .unset, .unset, .unset, .unset]) rfl k) ?_
    show Fin _ p e below s _ _ _ s₁ (mkF m 19 #[.val (.int p0), .val (.int p1), .val (.int p2), .val (.int (1 : Int32)), .val (.int ((XT.ushr p2 (1 : Int32)) &&& (3 : Int32))), .unset, .unset, .unset, .unset, .unset, .unset] [])
    refine Fin.go (fun _ k => XS.iload X0.here hx rfl (hb hby at_19) rfl k) ?_
    show Fin _ p e below s _ _ _ s₁ (mkF m 21 #[.val (.int p0), .val (.int p1), .val (.int p2), .val (.int (1 : Int32)), .val (.int ((XT.ushr p2 (1 : Int32)) &&& (3 : Int32))), .unset, .unset, .unset, .unset, .unset, .unset] [(.int ((XT.ushr p2 (1 : Int32)) &&& (3 : Int32)))])
    refine Fin.go (fun _ k => XS.iconst X0.here hx rfl (hb hby at_21) k) ?_
    show Fin _ p e below s _ _ _ s₁ (mkF m 22 #[.val (.int p0), .val (.int p1), .val (.int p2), .val (.int (1 : Int32)), .val (.int ((XT.ushr p2 (1 : Int32)) &&& (3 : Int32))), .unset, .unset, .unset, .unset, .unset, .unset] [(.int (1 : Int32)), (.int ((XT.ushr p2 (1 : Int32)) &&& (3 : Int32)))])
    by_cases c22 : ((XT.ushr p2 (1 : Int32)) &&& (3 : Int32)) = (1 : Int32)
    · refine Fin.go (fun _ k => XS.icmpNo X0.here hx rfl (hb hby at_22) rfl (XT.ii_ne_f c22) k) ?_
      show Fin _ p e below s _ _ _ s₁ (mkF m 25 #[.val (.int p0), .val (.int p1), .val (.int p2), .val (.int (1 : Int32)), .val (.int ((XT.ushr p2 (1 : Int32)) &&& (3 : Int32))), .unset, .unset, .unset, .unset, .unset, .unset] [])
      refine Fin.go (fun _ k => XS.sipush X0.here hx rfl (hb hby at_25) k) ?_
      show Fin _ p e below s _ _ _ s₁ (mkF m 28 #[.val (.int p0), .val (.int p1), .val (.int p2), .val (.int (1 : Int32)), .val (.int ((XT.ushr p2 (1 : Int32)) &&& (3 : Int32))), .unset, .unset, .unset, .unset, .unset, .unset] [(.int (410 : Int32))])
      refine Fin.go (fun _ k => XS.istore X0.here hx rfl (hb hby at_28) rfl (l' := #[.val (.int p0), .val (.int p1), .val (.int p2), .val (.int (1 : Int32)), .val (.int ((XT.ushr p2 (1 : Int32)) &&& (3 : Int32))), .val (.int (410 : Int32)), .unset, .unset, .unset, .unset, .unset]) rfl k) ?_
      show Fin _ p e below s _ _ _ s₁ (mkF m 30 #[.val (.int p0), .val (.int p1), .val (.int p2), .val (.int (1 : Int32)), .val (.int ((XT.ushr p2 (1 : Int32)) &&& (3 : Int32))), .val (.int (410 : Int32)), .unset, .unset, .unset, .unset, .unset] [])
      refine Fin.go (fun _ k => XS.goto X0.here hx rfl (pc0 := 30) (pc' := 57) rfl (hb hby at_30) (by decide) (by decide) k) ?_
      show Fin _ p e below s _ _ _ s₁ (mkF m 57 #[.val (.int p0), .val (.int p1), .val (.int p2), .val (.int (1 : Int32)), .val (.int ((XT.ushr p2 (1 : Int32)) &&& (3 : Int32))), .val (.int (410 : Int32)), .unset, .unset, .unset, .unset, .unset] [])
      refine Fin.go (fun _ k => XS.iloadN X0.here hx rfl (hb hby at_57) rfl k) ?_
      show Fin _ p e below s _ _ _ s₁ (mkF m 58 #[.val (.int p0), .val (.int p1), .val (.int p2), .val (.int (1 : Int32)), .val (.int ((XT.ushr p2 (1 : Int32)) &&& (3 : Int32))), .val (.int (410 : Int32)), .unset, .unset, .unset, .unset, .unset] [(.int p2)])
      refine Fin.go (fun _ k => XS.bipush X0.here hx rfl (hb hby at_58) k) ?_
      show Fin _ p e below s _ _ _ s₁ (mkF m 60 #[.val (.int p0), .val (.int p1), .val (.int p2), .val (.int (1 : Int32)), .val (.int ((XT.ushr p2 (1 : Int32)) &&& (3 : Int32))), .val (.int (410 : Int32)), .unset, .unset, .unset, .unset, .unset] [(.int (8 : Int32)), (.int p2)])
      refine Fin.go (fun _ k => XS.iand X0.here hx rfl (hb hby at_60) rfl k) ?_
      show Fin _ p e below s _ _ _ s₁ (mkF m 61 #[.val (.int p0), .val (.int p1), .val (.int p2), .val (.int (1 : Int32)), .val (.int ((XT.ushr p2 (1 : Int32)) &&& (3 : Int32))), .val (.int (410 : Int32)), .unset, .unset, .unset, .unset, .unset] [(.int (p2 &&& (8 : Int32)))])
      by_cases c61 : (p2 &&& (8 : Int32)) = 0
      · refine Fin.go (fun _ k => XS.ifYes X0.here hx rfl (pc0 := 61) (pc' := 75) rfl (hb hby at_61) rfl (XT.i0_eq_t c61) (by decide) (by decide) k) ?_
        show Fin _ p e below s _ _ _ s₁ (mkF m 75 #[.val (.int p0), .val (.int p1), .val (.int p2), .val (.int (1 : Int32)), .val (.int ((XT.ushr p2 (1 : Int32)) &&& (3 : Int32))), .val (.int (410 : Int32)), .unset, .unset, .unset, .unset, .unset] [])
        refine Fin.go (fun _ k => XS.iloadN X0.here hx rfl (hb hby at_75) rfl k) ?_
        show Fin _ p e below s _ _ _ s₁ (mkF m 76 #[.val (.int p0), .val (.int p1), .val (.int p2), .val (.int (1 : Int32)), .val (.int ((XT.ushr p2 (1 : Int32)) &&& (3 : Int32))), .val (.int (410 : Int32)), .unset, .unset, .unset, .unset, .unset] [(.int p1)])
        refine Fin.go (fun _ k => XS.istore X0.here hx rfl (hb hby at_76) rfl (l' := #[.val (.int p0), .val (.int p1), .val (.int p2), .val (.int (1 : Int32)), .val (.int ((XT.ushr p2 (1 : Int32)) &&& (3 : Int32))), .val (.int (410 : Int32)), .val (.int p1), .unset, .unset, .unset, .unset]) rfl k) ?_
        show Fin _ p e below s _ _ _ s₁ (mkF m 78 #[.val (.int p0), .val (.int p1), .val (.int p2), .val (.int (1 : Int32)), .val (.int ((XT.ushr p2 (1 : Int32)) &&& (3 : Int32))), .val (.int (410 : Int32)), .val (.int p1), .unset, .unset, .unset, .unset] [])
        exact tail (1 : Int32) ((XT.ushr p2 (1 : Int32)) &&& (3 : Int32)) (410 : Int32) p1
      · refine Fin.go (fun _ k => XS.ifNo X0.here hx rfl (hb hby at_61) rfl (XT.i0_eq_f c61) k) ?_
        show Fin _ p e below s _ _ _ s₁ (mkF m 64 #[.val (.int p0), .val (.int p1), .val (.int p2), .val (.int (1 : Int32)), .val (.int ((XT.ushr p2 (1 : Int32)) &&& (3 : Int32))), .val (.int (410 : Int32)), .unset, .unset, .unset, .unset, .unset] [])
        refine Fin.go (fun _ k => XS.bipush X0.here hx rfl (hb hby at_64) k) ?_
        show Fin _ p e below s _ _ _ s₁ (mkF m 66 #[.val (.int p0), .val (.int p1), .val (.int p2), .val (.int (1 : Int32)), .val (.int ((XT.ushr p2 (1 : Int32)) &&& (3 : Int32))), .val (.int (410 : Int32)), .unset, .unset, .unset, .unset, .unset] [(.int (9 : Int32))])
        refine Fin.go (fun _ k => XS.iloadN X0.here hx rfl (hb hby at_66) rfl k) ?_
        show Fin _ p e below s _ _ _ s₁ (mkF m 67 #[.val (.int p0), .val (.int p1), .val (.int p2), .val (.int (1 : Int32)), .val (.int ((XT.ushr p2 (1 : Int32)) &&& (3 : Int32))), .val (.int (410 : Int32)), .unset, .unset, .unset, .unset, .unset] [(.int p1), (.int (9 : Int32))])
        refine Fin.go (fun _ k => XS.iconst X0.here hx rfl (hb hby at_67) k) ?_
        show Fin _ p e below s _ _ _ s₁ (mkF m 68 #[.val (.int p0), .val (.int p1), .val (.int p2), .val (.int (1 : Int32)), .val (.int ((XT.ushr p2 (1 : Int32)) &&& (3 : Int32))), .val (.int (410 : Int32)), .unset, .unset, .unset, .unset, .unset] [(.int (3 : Int32)), (.int p1), (.int (9 : Int32))])
        refine Fin.go (fun _ k => XS.iand X0.here hx rfl (hb hby at_68) rfl k) ?_
        show Fin _ p e below s _ _ _ s₁ (mkF m 69 #[.val (.int p0), .val (.int p1), .val (.int p2), .val (.int (1 : Int32)), .val (.int ((XT.ushr p2 (1 : Int32)) &&& (3 : Int32))), .val (.int (410 : Int32)), .unset, .unset, .unset, .unset, .unset] [(.int (p1 &&& (3 : Int32))), (.int (9 : Int32))])
        refine Fin.go (fun _ k => XS.iadd X0.here hx rfl (hb hby at_69) rfl k) ?_
        show Fin _ p e below s _ _ _ s₁ (mkF m 70 #[.val (.int p0), .val (.int p1), .val (.int p2), .val (.int (1 : Int32)), .val (.int ((XT.ushr p2 (1 : Int32)) &&& (3 : Int32))), .val (.int (410 : Int32)), .unset, .unset, .unset, .unset, .unset] [(.int ((9 : Int32) + (p1 &&& (3 : Int32))))])
        refine Fin.go (fun _ k => XS.istore X0.here hx rfl (hb hby at_70) rfl (l' := #[.val (.int p0), .val (.int p1), .val (.int p2), .val (.int (1 : Int32)), .val (.int ((XT.ushr p2 (1 : Int32)) &&& (3 : Int32))), .val (.int (410 : Int32)), .val (.int ((9 : Int32) + (p1 &&& (3 : Int32)))), .unset, .unset, .unset, .unset]) rfl k) ?_
        show Fin _ p e below s _ _ _ s₁ (mkF m 72 #[.val (.int p0), .val (.int p1), .val (.int p2), .val (.int (1 : Int32)), .val (.int ((XT.ushr p2 (1 : Int32)) &&& (3 : Int32))), .val (.int (410 : Int32)), .val (.int ((9 : Int32) + (p1 &&& (3 : Int32)))), .unset, .unset, .unset, .unset] [])
        refine Fin.go (fun _ k => XS.goto X0.here hx rfl (pc0 := 72) (pc' := 78) rfl (hb hby at_72) (by decide) (by decide) k) ?_
        show Fin _ p e below s _ _ _ s₁ (mkF m 78 #[.val (.int p0), .val (.int p1), .val (.int p2), .val (.int (1 : Int32)), .val (.int ((XT.ushr p2 (1 : Int32)) &&& (3 : Int32))), .val (.int (410 : Int32)), .val (.int ((9 : Int32) + (p1 &&& (3 : Int32)))), .unset, .unset, .unset, .unset] [])
        exact tail (1 : Int32) ((XT.ushr p2 (1 : Int32)) &&& (3 : Int32)) (410 : Int32) ((9 : Int32) + (p1 &&& (3 : Int32)))
    · refine Fin.go (fun _ k => XS.icmpYes X0.here hx rfl (pc0 := 22) (pc' := 33) rfl (hb hby at_22) rfl (XT.ii_ne_t c22) (by decide) (by decide) k) ?_
      show Fin _ p e below s _ _ _ s₁ (mkF m 33 #[.val (.int p0), .val (.int p1), .val (.int p2), .val (.int (1 : Int32)), .val (.int ((XT.ushr p2 (1 : Int32)) &&& (3 : Int32))), .unset, .unset, .unset, .unset, .unset, .unset] [])
      refine Fin.go (fun _ k => XS.iload X0.here hx rfl (hb hby at_33) rfl k) ?_
      show Fin _ p e below s _ _ _ s₁ (mkF m 35 #[.val (.int p0), .val (.int p1), .val (.int p2), .val (.int (1 : Int32)), .val (.int ((XT.ushr p2 (1 : Int32)) &&& (3 : Int32))), .unset, .unset, .unset, .unset, .unset, .unset] [(.int ((XT.ushr p2 (1 : Int32)) &&& (3 : Int32)))])
      refine Fin.go (fun _ k => XS.iconst X0.here hx rfl (hb hby at_35) k) ?_
      show Fin _ p e below s _ _ _ s₁ (mkF m 36 #[.val (.int p0), .val (.int p1), .val (.int p2), .val (.int (1 : Int32)), .val (.int ((XT.ushr p2 (1 : Int32)) &&& (3 : Int32))), .unset, .unset, .unset, .unset, .unset, .unset] [(.int (2 : Int32)), (.int ((XT.ushr p2 (1 : Int32)) &&& (3 : Int32)))])
      by_cases c36 : ((XT.ushr p2 (1 : Int32)) &&& (3 : Int32)) = (2 : Int32)
      · refine Fin.go (fun _ k => XS.icmpNo X0.here hx rfl (hb hby at_36) rfl (XT.ii_ne_f c36) k) ?_
        show Fin _ p e below s _ _ _ s₁ (mkF m 39 #[.val (.int p0), .val (.int p1), .val (.int p2), .val (.int (1 : Int32)), .val (.int ((XT.ushr p2 (1 : Int32)) &&& (3 : Int32))), .unset, .unset, .unset, .unset, .unset, .unset] [])
        refine Fin.go (fun _ k => XS.sipush X0.here hx rfl (hb hby at_39) k) ?_
        show Fin _ p e below s _ _ _ s₁ (mkF m 42 #[.val (.int p0), .val (.int p1), .val (.int p2), .val (.int (1 : Int32)), .val (.int ((XT.ushr p2 (1 : Int32)) &&& (3 : Int32))), .unset, .unset, .unset, .unset, .unset, .unset] [(.int (409 : Int32))])
        refine Fin.go (fun _ k => XS.iloadN X0.here hx rfl (hb hby at_42) rfl k) ?_
        show Fin _ p e below s _ _ _ s₁ (mkF m 43 #[.val (.int p0), .val (.int p1), .val (.int p2), .val (.int (1 : Int32)), .val (.int ((XT.ushr p2 (1 : Int32)) &&& (3 : Int32))), .unset, .unset, .unset, .unset, .unset, .unset] [(.int p0), (.int (409 : Int32))])
        refine Fin.go (fun _ k => X0.ldcI hx hown (mvT hZ (hw _ w_39)) rfl (hb hby at_43) k) ?_
        show Fin _ p e below s _ _ _ s₁ (mkF m 45 #[.val (.int p0), .val (.int p1), .val (.int p2), .val (.int (1 : Int32)), .val (.int ((XT.ushr p2 (1 : Int32)) &&& (3 : Int32))), .unset, .unset, .unset, .unset, .unset, .unset] [(.int (2147483647 : Int32)), (.int p0), (.int (409 : Int32))])
        refine Fin.go (fun _ k => XS.iand X0.here hx rfl (hb hby at_45) rfl k) ?_
        show Fin _ p e below s _ _ _ s₁ (mkF m 46 #[.val (.int p0), .val (.int p1), .val (.int p2), .val (.int (1 : Int32)), .val (.int ((XT.ushr p2 (1 : Int32)) &&& (3 : Int32))), .unset, .unset, .unset, .unset, .unset, .unset] [(.int (p0 &&& (2147483647 : Int32))), (.int (409 : Int32))])
        refine Fin.go (fun _ k => XS.iconst X0.here hx rfl (hb hby at_46) k) ?_
        show Fin _ p e below s _ _ _ s₁ (mkF m 47 #[.val (.int p0), .val (.int p1), .val (.int p2), .val (.int (1 : Int32)), .val (.int ((XT.ushr p2 (1 : Int32)) &&& (3 : Int32))), .unset, .unset, .unset, .unset, .unset, .unset] [(.int (3 : Int32)), (.int (p0 &&& (2147483647 : Int32))), (.int (409 : Int32))])
        refine Fin.go (fun _ k => iremM X0 hx rfl (hb hby at_47) rfl (by decide) k) ?_
        show Fin _ p e below s _ _ _ s₁ (mkF m 48 #[.val (.int p0), .val (.int p1), .val (.int p2), .val (.int (1 : Int32)), .val (.int ((XT.ushr p2 (1 : Int32)) &&& (3 : Int32))), .unset, .unset, .unset, .unset, .unset, .unset] [(.int ((p0 &&& (2147483647 : Int32)) % (3 : Int32))), (.int (409 : Int32))])
        refine Fin.go (fun _ k => XS.iadd X0.here hx rfl (hb hby at_48) rfl k) ?_
        show Fin _ p e below s _ _ _ s₁ (mkF m 49 #[.val (.int p0), .val (.int p1), .val (.int p2), .val (.int (1 : Int32)), .val (.int ((XT.ushr p2 (1 : Int32)) &&& (3 : Int32))), .unset, .unset, .unset, .unset, .unset, .unset] [(.int ((409 : Int32) + ((p0 &&& (2147483647 : Int32)) % (3 : Int32))))])
        refine Fin.go (fun _ k => XS.istore X0.here hx rfl (hb hby at_49) rfl (l' := #[.val (.int p0), .val (.int p1), .val (.int p2), .val (.int (1 : Int32)), .val (.int ((XT.ushr p2 (1 : Int32)) &&& (3 : Int32))), .val (.int ((409 : Int32) + ((p0 &&& (2147483647 : Int32)) % (3 : Int32)))), .unset, .unset, .unset, .unset, .unset]) rfl k) ?_
        show Fin _ p e below s _ _ _ s₁ (mkF m 51 #[.val (.int p0), .val (.int p1), .val (.int p2), .val (.int (1 : Int32)), .val (.int ((XT.ushr p2 (1 : Int32)) &&& (3 : Int32))), .val (.int ((409 : Int32) + ((p0 &&& (2147483647 : Int32)) % (3 : Int32)))), .unset, .unset, .unset, .unset, .unset] [])
        refine Fin.go (fun _ k => XS.goto X0.here hx rfl (pc0 := 51) (pc' := 57) rfl (hb hby at_51) (by decide) (by decide) k) ?_
        show Fin _ p e below s _ _ _ s₁ (mkF m 57 #[.val (.int p0), .val (.int p1), .val (.int p2), .val (.int (1 : Int32)), .val (.int ((XT.ushr p2 (1 : Int32)) &&& (3 : Int32))), .val (.int ((409 : Int32) + ((p0 &&& (2147483647 : Int32)) % (3 : Int32)))), .unset, .unset, .unset, .unset, .unset] [])
        refine Fin.go (fun _ k => XS.iloadN X0.here hx rfl (hb hby at_57) rfl k) ?_
        show Fin _ p e below s _ _ _ s₁ (mkF m 58 #[.val (.int p0), .val (.int p1), .val (.int p2), .val (.int (1 : Int32)), .val (.int ((XT.ushr p2 (1 : Int32)) &&& (3 : Int32))), .val (.int ((409 : Int32) + ((p0 &&& (2147483647 : Int32)) % (3 : Int32)))), .unset, .unset, .unset, .unset, .unset] [(.int p2)])
        refine Fin.go (fun _ k => XS.bipush X0.here hx rfl (hb hby at_58) k) ?_
        show Fin _ p e below s _ _ _ s₁ (mkF m 60 #[.val (.int p0), .val (.int p1), .val (.int p2), .val (.int (1 : Int32)), .val (.int ((XT.ushr p2 (1 : Int32)) &&& (3 : Int32))), .val (.int ((409 : Int32) + ((p0 &&& (2147483647 : Int32)) % (3 : Int32)))), .unset, .unset, .unset, .unset, .unset] [(.int (8 : Int32)), (.int p2)])
        refine Fin.go (fun _ k => XS.iand X0.here hx rfl (hb hby at_60) rfl k) ?_
        show Fin _ p e below s _ _ _ s₁ (mkF m 61 #[.val (.int p0), .val (.int p1), .val (.int p2), .val (.int (1 : Int32)), .val (.int ((XT.ushr p2 (1 : Int32)) &&& (3 : Int32))), .val (.int ((409 : Int32) + ((p0 &&& (2147483647 : Int32)) % (3 : Int32)))), .unset, .unset, .unset, .unset, .unset] [(.int (p2 &&& (8 : Int32)))])
        by_cases c61 : (p2 &&& (8 : Int32)) = 0
        · refine Fin.go (fun _ k => XS.ifYes X0.here hx rfl (pc0 := 61) (pc' := 75) rfl (hb hby at_61) rfl (XT.i0_eq_t c61) (by decide) (by decide) k) ?_
          show Fin _ p e below s _ _ _ s₁ (mkF m 75 #[.val (.int p0), .val (.int p1), .val (.int p2), .val (.int (1 : Int32)), .val (.int ((XT.ushr p2 (1 : Int32)) &&& (3 : Int32))), .val (.int ((409 : Int32) + ((p0 &&& (2147483647 : Int32)) % (3 : Int32)))), .unset, .unset, .unset, .unset, .unset] [])
          refine Fin.go (fun _ k => XS.iloadN X0.here hx rfl (hb hby at_75) rfl k) ?_
          show Fin _ p e below s _ _ _ s₁ (mkF m 76 #[.val (.int p0), .val (.int p1), .val (.int p2), .val (.int (1 : Int32)), .val (.int ((XT.ushr p2 (1 : Int32)) &&& (3 : Int32))), .val (.int ((409 : Int32) + ((p0 &&& (2147483647 : Int32)) % (3 : Int32)))), .unset, .unset, .unset, .unset, .unset] [(.int p1)])
          refine Fin.go (fun _ k => XS.istore X0.here hx rfl (hb hby at_76) rfl (l' := #[.val (.int p0), .val (.int p1), .val (.int p2), .val (.int (1 : Int32)), .val (.int ((XT.ushr p2 (1 : Int32)) &&& (3 : Int32))), .val (.int ((409 : Int32) + ((p0 &&& (2147483647 : Int32)) % (3 : Int32)))), .val (.int p1), .unset, .unset, .unset, .unset]) rfl k) ?_
          show Fin _ p e below s _ _ _ s₁ (mkF m 78 #[.val (.int p0), .val (.int p1), .val (.int p2), .val (.int (1 : Int32)), .val (.int ((XT.ushr p2 (1 : Int32)) &&& (3 : Int32))), .val (.int ((409 : Int32) + ((p0 &&& (2147483647 : Int32)) % (3 : Int32)))), .val (.int p1), .unset, .unset, .unset, .unset] [])
          exact tail (1 : Int32) ((XT.ushr p2 (1 : Int32)) &&& (3 : Int32)) ((409 : Int32) + ((p0 &&& (2147483647 : Int32)) % (3 : Int32))) p1
        · refine Fin.go (fun _ k => XS.ifNo X0.here hx rfl (hb hby at_61) rfl (XT.i0_eq_f c61) k) ?_
          show Fin _ p e below s _ _ _ s₁ (mkF m 64 #[.val (.int p0), .val (.int p1), .val (.int p2), .val (.int (1 : Int32)), .val (.int ((XT.ushr p2 (1 : Int32)) &&& (3 : Int32))), .val (.int ((409 : Int32) + ((p0 &&& (2147483647 : Int32)) % (3 : Int32)))), .unset, .unset, .unset, .unset, .unset] [])
          refine Fin.go (fun _ k => XS.bipush X0.here hx rfl (hb hby at_64) k) ?_
          show Fin _ p e below s _ _ _ s₁ (mkF m 66 #[.val (.int p0), .val (.int p1), .val (.int p2), .val (.int (1 : Int32)), .val (.int ((XT.ushr p2 (1 : Int32)) &&& (3 : Int32))), .val (.int ((409 : Int32) + ((p0 &&& (2147483647 : Int32)) % (3 : Int32)))), .unset, .unset, .unset, .unset, .unset] [(.int (9 : Int32))])
          refine Fin.go (fun _ k => XS.iloadN X0.here hx rfl (hb hby at_66) rfl k) ?_
          show Fin _ p e below s _ _ _ s₁ (mkF m 67 #[.val (.int p0), .val (.int p1), .val (.int p2), .val (.int (1 : Int32)), .val (.int ((XT.ushr p2 (1 : Int32)) &&& (3 : Int32))), .val (.int ((409 : Int32) + ((p0 &&& (2147483647 : Int32)) % (3 : Int32)))), .unset, .unset, .unset, .unset, .unset] [(.int p1), (.int (9 : Int32))])
          refine Fin.go (fun _ k => XS.iconst X0.here hx rfl (hb hby at_67) k) ?_
          show Fin _ p e below s _ _ _ s₁ (mkF m 68 #[.val (.int p0), .val (.int p1), .val (.int p2), .val (.int (1 : Int32)), .val (.int ((XT.ushr p2 (1 : Int32)) &&& (3 : Int32))), .val (.int ((409 : Int32) + ((p0 &&& (2147483647 : Int32)) % (3 : Int32)))), .unset, .unset, .unset, .unset, .unset] [(.int (3 : Int32)), (.int p1), (.int (9 : Int32))])
          refine Fin.go (fun _ k => XS.iand X0.here hx rfl (hb hby at_68) rfl k) ?_
          show Fin _ p e below s _ _ _ s₁ (mkF m 69 #[.val (.int p0), .val (.int p1), .val (.int p2), .val (.int (1 : Int32)), .val (.int ((XT.ushr p2 (1 : Int32)) &&& (3 : Int32))), .val (.int ((409 : Int32) + ((p0 &&& (2147483647 : Int32)) % (3 : Int32)))), .unset, .unset, .unset, .unset, .unset] [(.int (p1 &&& (3 : Int32))), (.int (9 : Int32))])
          refine Fin.go (fun _ k => XS.iadd X0.here hx rfl (hb hby at_69) rfl k) ?_
          show Fin _ p e below s _ _ _ s₁ (mkF m 70 #[.val (.int p0), .val (.int p1), .val (.int p2), .val (.int (1 : Int32)), .val (.int ((XT.ushr p2 (1 : Int32)) &&& (3 : Int32))), .val (.int ((409 : Int32) + ((p0 &&& (2147483647 : Int32)) % (3 : Int32)))), .unset, .unset, .unset, .unset, .unset] [(.int ((9 : Int32) + (p1 &&& (3 : Int32))))])
          refine Fin.go (fun _ k => XS.istore X0.here hx rfl (hb hby at_70) rfl (l' := #[.val (.int p0), .val (.int p1), .val (.int p2), .val (.int (1 : Int32)), .val (.int ((XT.ushr p2 (1 : Int32)) &&& (3 : Int32))), .val (.int ((409 : Int32) + ((p0 &&& (2147483647 : Int32)) % (3 : Int32)))), .val (.int ((9 : Int32) + (p1 &&& (3 : Int32)))), .unset, .unset, .unset, .unset]) rfl k) ?_
          show Fin _ p e below s _ _ _ s₁ (mkF m 72 #[.val (.int p0), .val (.int p1), .val (.int p2), .val (.int (1 : Int32)), .val (.int ((XT.ushr p2 (1 : Int32)) &&& (3 : Int32))), .val (.int ((409 : Int32) + ((p0 &&& (2147483647 : Int32)) % (3 : Int32)))), .val (.int ((9 : Int32) + (p1 &&& (3 : Int32)))), .unset, .unset, .unset, .unset] [])
          refine Fin.go (fun _ k => XS.goto X0.here hx rfl (pc0 := 72) (pc' := 78) rfl (hb hby at_72) (by decide) (by decide) k) ?_
          show Fin _ p e below s _ _ _ s₁ (mkF m 78 #[.val (.int p0), .val (.int p1), .val (.int p2), .val (.int (1 : Int32)), .val (.int ((XT.ushr p2 (1 : Int32)) &&& (3 : Int32))), .val (.int ((409 : Int32) + ((p0 &&& (2147483647 : Int32)) % (3 : Int32)))), .val (.int ((9 : Int32) + (p1 &&& (3 : Int32)))), .unset, .unset, .unset, .unset] [])
          exact tail (1 : Int32) ((XT.ushr p2 (1 : Int32)) &&& (3 : Int32)) ((409 : Int32) + ((p0 &&& (2147483647 : Int32)) % (3 : Int32))) ((9 : Int32) + (p1 &&& (3 : Int32)))
      · refine Fin.go (fun _ k => XS.icmpYes X0.here hx rfl (pc0 := 36) (pc' := 54) rfl (hb hby at_36) rfl (XT.ii_ne_t c36) (by decide) (by decide) k) ?_
        show Fin _ p e below s _ _ _ s₁ (mkF m 54 #[.val (.int p0), .val (.int p1), .val (.int p2), .val (.int (1 : Int32)), .val (.int ((XT.ushr p2 (1 : Int32)) &&& (3 : Int32))), .unset, .unset, .unset, .unset, .unset, .unset] [])
        refine Fin.go (fun _ k => XS.iloadN X0.here hx rfl (hb hby at_54) rfl k) ?_
        show Fin _ p e below s _ _ _ s₁ (mkF m 55 #[.val (.int p0), .val (.int p1), .val (.int p2), .val (.int (1 : Int32)), .val (.int ((XT.ushr p2 (1 : Int32)) &&& (3 : Int32))), .unset, .unset, .unset, .unset, .unset, .unset] [(.int p0)])
        refine Fin.go (fun _ k => XS.istore X0.here hx rfl (hb hby at_55) rfl (l' := #[.val (.int p0), .val (.int p1), .val (.int p2), .val (.int (1 : Int32)), .val (.int ((XT.ushr p2 (1 : Int32)) &&& (3 : Int32))), .val (.int p0), .unset, .unset, .unset, .unset, .unset]) rfl k) ?_
        show Fin _ p e below s _ _ _ s₁ (mkF m 57 #[.val (.int p0), .val (.int p1), .val (.int p2), .val (.int (1 : Int32)), .val (.int ((XT.ushr p2 (1 : Int32)) &&& (3 : Int32))), .val (.int p0), .unset, .unset, .unset, .unset, .unset] [])
        refine Fin.go (fun _ k => XS.iloadN X0.here hx rfl (hb hby at_57) rfl k) ?_
        show Fin _ p e below s _ _ _ s₁ (mkF m 58 #[.val (.int p0), .val (.int p1), .val (.int p2), .val (.int (1 : Int32)), .val (.int ((XT.ushr p2 (1 : Int32)) &&& (3 : Int32))), .val (.int p0), .unset, .unset, .unset, .unset, .unset] [(.int p2)])
        refine Fin.go (fun _ k => XS.bipush X0.here hx rfl (hb hby at_58) k) ?_
        show Fin _ p e below s _ _ _ s₁ (mkF m 60 #[.val (.int p0), .val (.int p1), .val (.int p2), .val (.int (1 : Int32)), .val (.int ((XT.ushr p2 (1 : Int32)) &&& (3 : Int32))), .val (.int p0), .unset, .unset, .unset, .unset, .unset] [(.int (8 : Int32)), (.int p2)])
        refine Fin.go (fun _ k => XS.iand X0.here hx rfl (hb hby at_60) rfl k) ?_
        show Fin _ p e below s _ _ _ s₁ (mkF m 61 #[.val (.int p0), .val (.int p1), .val (.int p2), .val (.int (1 : Int32)), .val (.int ((XT.ushr p2 (1 : Int32)) &&& (3 : Int32))), .val (.int p0), .unset, .unset, .unset, .unset, .unset] [(.int (p2 &&& (8 : Int32)))])
        by_cases c61 : (p2 &&& (8 : Int32)) = 0
        · refine Fin.go (fun _ k => XS.ifYes X0.here hx rfl (pc0 := 61) (pc' := 75) rfl (hb hby at_61) rfl (XT.i0_eq_t c61) (by decide) (by decide) k) ?_
          show Fin _ p e below s _ _ _ s₁ (mkF m 75 #[.val (.int p0), .val (.int p1), .val (.int p2), .val (.int (1 : Int32)), .val (.int ((XT.ushr p2 (1 : Int32)) &&& (3 : Int32))), .val (.int p0), .unset, .unset, .unset, .unset, .unset] [])
          refine Fin.go (fun _ k => XS.iloadN X0.here hx rfl (hb hby at_75) rfl k) ?_
          show Fin _ p e below s _ _ _ s₁ (mkF m 76 #[.val (.int p0), .val (.int p1), .val (.int p2), .val (.int (1 : Int32)), .val (.int ((XT.ushr p2 (1 : Int32)) &&& (3 : Int32))), .val (.int p0), .unset, .unset, .unset, .unset, .unset] [(.int p1)])
          refine Fin.go (fun _ k => XS.istore X0.here hx rfl (hb hby at_76) rfl (l' := #[.val (.int p0), .val (.int p1), .val (.int p2), .val (.int (1 : Int32)), .val (.int ((XT.ushr p2 (1 : Int32)) &&& (3 : Int32))), .val (.int p0), .val (.int p1), .unset, .unset, .unset, .unset]) rfl k) ?_
          show Fin _ p e below s _ _ _ s₁ (mkF m 78 #[.val (.int p0), .val (.int p1), .val (.int p2), .val (.int (1 : Int32)), .val (.int ((XT.ushr p2 (1 : Int32)) &&& (3 : Int32))), .val (.int p0), .val (.int p1), .unset, .unset, .unset, .unset] [])
          exact tail (1 : Int32) ((XT.ushr p2 (1 : Int32)) &&& (3 : Int32)) p0 p1
        · refine Fin.go (fun _ k => XS.ifNo X0.here hx rfl (hb hby at_61) rfl (XT.i0_eq_f c61) k) ?_
          show Fin _ p e below s _ _ _ s₁ (mkF m 64 #[.val (.int p0), .val (.int p1), .val (.int p2), .val (.int (1 : Int32)), .val (.int ((XT.ushr p2 (1 : Int32)) &&& (3 : Int32))), .val (.int p0), .unset, .unset, .unset, .unset, .unset] [])
          refine Fin.go (fun _ k => XS.bipush X0.here hx rfl (hb hby at_64) k) ?_
          show Fin _ p e below s _ _ _ s₁ (mkF m 66 #[.val (.int p0), .val (.int p1), .val (.int p2), .val (.int (1 : Int32)), .val (.int ((XT.ushr p2 (1 : Int32)) &&& (3 : Int32))), .val (.int p0), .unset, .unset, .unset, .unset, .unset] [(.int (9 : Int32))])
          refine Fin.go (fun _ k => XS.iloadN X0.here hx rfl (hb hby at_66) rfl k) ?_
          show Fin _ p e below s _ _ _ s₁ (mkF m 67 #[.val (.int p0), .val (.int p1), .val (.int p2), .val (.int (1 : Int32)), .val (.int ((XT.ushr p2 (1 : Int32)) &&& (3 : Int32))), .val (.int p0), .unset, .unset, .unset, .unset, .unset] [(.int p1), (.int (9 : Int32))])
          refine Fin.go (fun _ k => XS.iconst X0.here hx rfl (hb hby at_67) k) ?_
          show Fin _ p e below s _ _ _ s₁ (mkF m 68 #[.val (.int p0), .val (.int p1), .val (.int p2), .val (.int (1 : Int32)), .val (.int ((XT.ushr p2 (1 : Int32)) &&& (3 : Int32))), .val (.int p0), .unset, .unset, .unset, .unset, .unset] [(.int (3 : Int32)), (.int p1), (.int (9 : Int32))])
          refine Fin.go (fun _ k => XS.iand X0.here hx rfl (hb hby at_68) rfl k) ?_
          show Fin _ p e below s _ _ _ s₁ (mkF m 69 #[.val (.int p0), .val (.int p1), .val (.int p2), .val (.int (1 : Int32)), .val (.int ((XT.ushr p2 (1 : Int32)) &&& (3 : Int32))), .val (.int p0), .unset, .unset, .unset, .unset, .unset] [(.int (p1 &&& (3 : Int32))), (.int (9 : Int32))])
          refine Fin.go (fun _ k => XS.iadd X0.here hx rfl (hb hby at_69) rfl k) ?_
          show Fin _ p e below s _ _ _ s₁ (mkF m 70 #[.val (.int p0), .val (.int p1), .val (.int p2), .val (.int (1 : Int32)), .val (.int ((XT.ushr p2 (1 : Int32)) &&& (3 : Int32))), .val (.int p0), .unset, .unset, .unset, .unset, .unset] [(.int ((9 : Int32) + (p1 &&& (3 : Int32))))])
          refine Fin.go (fun _ k => XS.istore X0.here hx rfl (hb hby at_70) rfl (l' := #[.val (.int p0), .val (.int p1), .val (.int p2), .val (.int (1 : Int32)), .val (.int ((XT.ushr p2 (1 : Int32)) &&& (3 : Int32))), .val (.int p0), .val (.int ((9 : Int32) + (p1 &&& (3 : Int32)))), .unset, .unset, .unset, .unset]) rfl k) ?_
          show Fin _ p e below s _ _ _ s₁ (mkF m 72 #[.val (.int p0), .val (.int p1), .val (.int p2), .val (.int (1 : Int32)), .val (.int ((XT.ushr p2 (1 : Int32)) &&& (3 : Int32))), .val (.int p0), .val (.int ((9 : Int32) + (p1 &&& (3 : Int32)))), .unset, .unset, .unset, .unset] [])
          refine Fin.go (fun _ k => XS.goto X0.here hx rfl (pc0 := 72) (pc' := 78) rfl (hb hby at_72) (by decide) (by decide) k) ?_
          show Fin _ p e below s _ _ _ s₁ (mkF m 78 #[.val (.int p0), .val (.int p1), .val (.int p2), .val (.int (1 : Int32)), .val (.int ((XT.ushr p2 (1 : Int32)) &&& (3 : Int32))), .val (.int p0), .val (.int ((9 : Int32) + (p1 &&& (3 : Int32)))), .unset, .unset, .unset, .unset] [])
          exact tail (1 : Int32) ((XT.ushr p2 (1 : Int32)) &&& (3 : Int32)) p0 ((9 : Int32) + (p1 &&& (3 : Int32)))
set_option maxRecDepth 65536 in
set_option maxHeartbeats 40000000 in
theorem comes_1 {Post : Tables → Env → Array Value → State → Outcome → State → Prop} (hpost : ∀ tb e args s v u, (limb_1_1.after args s (.returned v) u = true ∧ limb_1_2.after args s (.returned v) u = true ∧ True) → FrameEnd s (.returned v) u (Jvm.fieldLocs frame_1_writes args s ++ Jvm.arrayLocs frame_1_arrays args s ++ Jvm.staticLocs frame_1_statics s) 16 128 → Post tb e args s (.returned v) u) :
    ArmFor flags0 classFile x code maxLocals ret World_1 tables_1 room_1 Calls_1 rest_1 Pre_1 Post := by
  intro l hfl _ _ p e ha hc hk s m args below hf hA hF happ hP
  obtain ⟨hcalls, hrest, hpre⟩ := hP
  obtain ⟨-, -, -, hnamed, -, -, -, hat⟩ := (Spec.applies_iff hf).mp happ
  obtain ⟨hg, hn⟩ := and_e (Cond.before_iff.mp (show (Jvm.Cond.and given_1 narrow_1).before args s = true from hpre))
  obtain ⟨hcnt, hg⟩ := and_e hg
  obtain ⟨u0, u1, u2, rfl⟩ : ∃ u0 u1 u2 : Value, args = #[u0, u1, u2] := by
    have hs : args.size = 3 := by simpa [Cond.value, given_1] using hcnt
    obtain ⟨L⟩ := args
    match L, hs with
    | [u0, u1, u2], _ => exact ⟨u0, u1, u2, rfl⟩
  have hw := fun d (hd : d ∈ tables_1) => atoms_spec (ws := Jvm.Cond.code x code maxLocals ret :: tables_1) hat d (List.mem_cons_of_mem _ hd)
  have hfit : Fit s := fun {y c} hc i hi => by
    obtain ⟨ha, rfl⟩ := Array.getElem?_eq_some_iff.mp hc
    have q := List.all_eq_true.mp ((Array.all_eq_true_iff_forall_mem.mp hF) _ (Array.getElem_mem ha)) i (List.mem_range.mpr hi)
    simpa [Array.getElem?_eq_getElem hi] using q
  obtain ⟨g0, hg⟩ := and_e hg
  obtain ⟨i0, ei0⟩ := is_v g0
  obtain rfl : u0 = (.int i0) := Option.some.inj ei0
  obtain ⟨g1, hg⟩ := and_e hg
  obtain ⟨i1, ei1⟩ := is_v g1
  obtain rfl : u1 = (.int i1) := Option.some.inj ei1
  have g2 := hg
  obtain ⟨i2, ei2⟩ := is_v g2
  obtain rfl : u2 = (.int i2) := Option.some.inj ei2
  have hsets := fun (i : Nat) {w : Jvm.Cond} (h : jdkStatics_1[i]? = some w) => (atoms_of _ (rest_1_c_eq ▸ (show rest_1_c.before _ s = true from hrest))).1 w (List.mem_of_getElem? h)
  have x_aG := (and_e hn).1
  obtain ⟨aG, ev_aG⟩ := exa_v x_aG
  have A_aG := Exa.start ev_aG x_aG
  have S_aG := Sta.start ev_aG (Or.inr ⟨(hw _ w_33), (hw _ w_34)⟩)
  have x_aF := (and_e hn).2
  obtain ⟨aF, ev_aF⟩ := exa_v x_aF
  have A_aF := Exa.start ev_aF x_aF
  have S_aF := Sta.start ev_aF (Or.inr ⟨(hw _ w_33), (hw _ w_37)⟩)
  have ehi : (Term.static "java/lang/Integer$IntegerCache" "high" "I").eval _ s none [] s = some (.int 127) := eqv_i (F := .int 127) rfl (Cond.before_iff.mp (hsets 3 rfl))
  have S_hi := Sta.start ehi (Or.inl (hsets 1 rfl))
  obtain ⟨aK, evK⟩ := arr_v (Cond.before_iff.mp (hsets 4 rfl))
  obtain ⟨cK, AK⟩ := Arr.start evK (Cond.before_iff.mp (hsets 4 rfl))
  have S_ca := Sta.start evK (Or.inr ⟨(hw _ w_5), hsets 2 rfl⟩)
  have elen : (Term.length (.static "java/lang/Integer$IntegerCache" "cache" "[Ljava/lang/Integer;")).eval _ s none [] s = some (.int 256) := eqv_i (F := .int 256) rfl (Cond.before_iff.mp (hsets 6 rfl))
  obtain ⟨q31, q256⟩ := lenOfEval evK (AK.fin (Vm.Alike.refl _)) elen
  have B : Bxs s aK cK "java/lang/Integer" "I" 256 (fun j => .int (j - 128)) := Bxs.start (fun _ => evK) AK q31 q256 (by decide) (Cond.before_iff.mp (hsets 7 rfl)) (fun X j hj h => eqv_i (subIdx hj) h)
  obtain ⟨n, o, h1, h2, h3, _, L, rfl, ⟨rfl, N⟩, hq⟩ := law l s _ hw s.heap.size s.heap (Old.start s) i0 i1 i2 S_hi aK cK S_ca B aG aF S_aG S_aF p e ha hc hk s m _ below hf ((Spec.applies_iff_loose hf).mp happ).1 ⟨rfl, State.Warmed39.refl s, rfl⟩ trivial
  refine ⟨n, _, h1, h2, h3, hpost _ _ _ _ _ _ ⟨Cond.after_iff.mpr rfl, Cond.after_iff.mpr (eq_i res_at (Term.int_eval (1)) rfl), trivial⟩ ⟨hq.1, hq.2.1, (hq.2.2.sift fun y hy => Or.inr (N y hy)).mono (by decide) (by decide)⟩⟩
theorem main_1_1 : Claimed_1_1 := comes_1 fun _ _ _ _ _ _ h hF => ⟨h.1, hF⟩
theorem main_1_2 : Claimed_1_2 := comes_1 fun _ _ _ _ _ _ h hF => ⟨h.2.1, hF⟩
end Jvm.Pilot.@@N@@
namespace Jvm.Pilot.@@N@@
open Jvm Jvm.ClassFile Sem Op Lib Jvm.Free Jvm.Stand Jvm.Pilot.@@N@@.Jvm.D
/-! MADE BY PROGRAM (witnessworld.py) out of the Statement's table words and the real class files: 18 classes; the members and pool entries that the words name. The judged class is class 1, her method 1. -/
namespace start1
open Jvm.ClassFile
def u (s : String) : CpInfo := .utf8 (stringToUtf16 s)
/-- a pool by its gaps: so many unusable entries, then the entry; so many at the end -/
def gap : Nat → List CpInfo → List CpInfo
  | 0, r => r
  | n + 1, r => .unusable :: gap n r
def poolList (es : List (Nat × CpInfo)) (last : Nat) : List CpInfo := es.foldr (fun e r => gap e.1 (e.2 :: r)) (gap last [])
def pool (es : List (Nat × CpInfo)) (last : Nat) : Array CpInfo := ⟨poolList es last⟩
def fileOf (pool : Array CpInfo) (this : Nat) (attrs : Array Attribute := #[]) (ms : Array MethodInfo := #[]) (fl : Nat := 33) (sup : Nat := 0) (ifs : Array Nat := #[]) (fds : Array FieldInfo := #[]) : ClassFile where
  minorVersion := 0
  majorVersion := 65
  constantPool := pool
  accessFlags := fl
  thisClass := this
  superClass := sup
  interfaces := ifs
  fields := fds
  methods := ms
  attributes := attrs
def plain (name : String) (sup : Option ClassId) : Class where
  name := name
  kind := .ordinary
  loader := none
  accessFlags := 33
  super := sup
  interfaces := #[]
  cf := none
  fields := #[]
  methods := #[]
  instanceTypes := #[]
  staticTypes := #[]
  resolved := #[]
  callSites := []
  init := .initialized
  statics := none
  mirror := none

def pool0 : Array CpInfo := pool [(5, u "<init>"), (0, u "()V"), (1, .class_ 10), (1, u "java/lang/Object")] 113

def k0c0 : Code := { maxStack := 0, maxLocals := 1, code := object_method_1_code, exceptionTable := #[], attributes := #[] }
def k0m0 : Method := { name := "<init>", desc := "()V", sig := { parameters := [], returnType := none }, accessFlags := 1, code := some k0c0 }
/-- java/lang/Object -/
def k0 : Class := { plain "java/lang/Object" none with
  accessFlags := 33
  interfaces := #[]
  cf := some (fileOf pool0 8 #[] #[{ accessFlags := 1, nameIndex := 5, descriptorIndex := 6, attributes := #[] }] 33 0 #[] #[])
  fields := #[]
  methods := #[k0m0]
  instanceTypes := #[]
  staticTypes := #[]
  resolved := Array.replicate 124 none
  statics := none }

def pool1 : Array CpInfo := pool [(2, .class_ 4), (1, u "java/lang/Object"), (0, u "<init>"), (0, u "()V"), (0, .integer 2147483647), (0, .methodref 9 10), (0, .class_ 11), (0, .nameAndType 12 13), (0, u "java/lang/Integer"), (0, u "valueOf"), (0, u "(I)Ljava/lang/Integer;"), (0, .methodref 15 16), (0, .class_ 17), (0, .nameAndType 18 19), (0, u "com/example/spool/spool/model/Endpoint"), (0, u "disabledBy"), (0, u "(Ljava/lang/Integer;I)Lcom/example/spool/spool/model/DisabledReason;"), (0, .fieldref 21 22), (0, .class_ 23), (0, .nameAndType 24 25), (0, u "com/example/spool/spool/model/DisabledReason"), (0, u "GONE"), (0, u "Lcom/example/spool/spool/model/DisabledReason;"), (0, .fieldref 21 27), (0, .nameAndType 28 25), (0, u "FAILING"), (0, .class_ 30), (0, u "com/example/spool/spool/model/EndpointDisabledByPinLaw"), (2, u "law"), (0, u "(III)Z")] 3

def k1m0 : Method := { name := "<init>", desc := "()V", sig := { parameters := [], returnType := none }, accessFlags := 1, code := none }
def k1c1 : Code := { maxStack := 3, maxLocals := 11, code := code, exceptionTable := #[], attributes := #[] }
def k1m1 : Method := { name := "law", desc := "(III)Z", sig := { parameters := [.int, .int, .int], returnType := some .boolean }, accessFlags := 9, code := some k1c1 }
/-- com/example/spool/spool/model/EndpointDisabledByPinLaw -/
def k1 : Class := { plain "com/example/spool/spool/model/EndpointDisabledByPinLaw" (some 0) with
  accessFlags := 49
  interfaces := #[]
  cf := some (fileOf pool1 29 #[] #[{ accessFlags := 1, nameIndex := 5, descriptorIndex := 6, attributes := #[] }, { accessFlags := 9, nameIndex := 33, descriptorIndex := 34, attributes := #[] }] 49 2 #[] #[])
  fields := #[]
  methods := #[k1m0, k1m1]
  instanceTypes := #[]
  staticTypes := #[]
  resolved := Array.replicate 38 none
  statics := none }

def pool2 : Array CpInfo := pool [(1, .class_ 2), (0, u "java/io/Serializable"), (0, .class_ 4), (0, u "java/lang/Object")] 2

/-- java/io/Serializable -/
def k2 : Class := { plain "java/io/Serializable" (some 0) with
  accessFlags := 1537
  interfaces := #[]
  cf := some (fileOf pool2 1 #[] #[] 1537 3 #[] #[])
  fields := #[]
  methods := #[]
  instanceTypes := #[]
  staticTypes := #[]
  resolved := Array.replicate 7 none
  statics := none }

def pool3 : Array CpInfo := pool [(1, .methodref 2 3), (0, .class_ 4), (0, .nameAndType 5 6), (0, u "java/lang/Object"), (0, u "<init>"), (0, u "()V"), (1, .class_ 10), (1, u "java/lang/Number"), (2, .class_ 14), (0, u "java/io/Serializable"), (0, u "serialVersionUID"), (0, u "J")] 20

def k3c0 : Code := { maxStack := 1, maxLocals := 1, code := jdk_18_method_1_code, exceptionTable := #[], attributes := #[] }
def k3m0 : Method := { name := "<init>", desc := "()V", sig := { parameters := [], returnType := none }, accessFlags := 1, code := some k3c0 }
/-- java/lang/Number -/
def k3 : Class := { plain "java/lang/Number" (some 0) with
  accessFlags := 1057
  interfaces := #[2]
  cf := some (fileOf pool3 8 #[] #[{ accessFlags := 1, nameIndex := 5, descriptorIndex := 6, attributes := #[] }] 1057 2 #[13] #[{ accessFlags := 26, nameIndex := 15, descriptorIndex := 16, attributes := #[] }])
  fields := #[{ name := "serialVersionUID", type := .long, accessFlags := 26, slot := 0, constantValue := 0 }]
  methods := #[k3m0]
  instanceTypes := #[]
  staticTypes := #[.long]
  resolved := Array.replicate 37 none
  statics := none }

def pool4 : Array CpInfo := pool [(1, .class_ 2), (0, u "java/lang/Comparable"), (0, .class_ 4), (0, u "java/lang/Object")] 7

/-- java/lang/Comparable -/
def k4 : Class := { plain "java/lang/Comparable" (some 0) with
  accessFlags := 1537
  interfaces := #[]
  cf := some (fileOf pool4 1 #[] #[] 1537 3 #[] #[])
  fields := #[]
  methods := #[]
  instanceTypes := #[]
  staticTypes := #[]
  resolved := Array.replicate 12 none
  statics := none }

def pool5 : Array CpInfo := pool [(1, .class_ 2), (0, u "java/lang/constant/Constable"), (0, .class_ 4), (0, u "java/lang/Object")] 6

/-- java/lang/constant/Constable -/
def k5 : Class := { plain "java/lang/constant/Constable" (some 0) with
  accessFlags := 1537
  interfaces := #[]
  cf := some (fileOf pool5 1 #[] #[] 1537 3 #[] #[])
  fields := #[]
  methods := #[]
  instanceTypes := #[]
  staticTypes := #[]
  resolved := Array.replicate 11 none
  statics := none }

def pool6 : Array CpInfo := pool [(1, .class_ 2), (0, u "java/lang/constant/ConstantDesc"), (0, .class_ 4), (0, u "java/lang/Object")] 32

/-- java/lang/constant/ConstantDesc -/
def k6 : Class := { plain "java/lang/constant/ConstantDesc" (some 0) with
  accessFlags := 1537
  interfaces := #[]
  cf := some (fileOf pool6 1 #[] #[] 1537 3 #[] #[])
  fields := #[]
  methods := #[]
  instanceTypes := #[]
  staticTypes := #[]
  resolved := Array.replicate 37 none
  statics := none }

def pool7 : Array CpInfo := pool [(1, .class_ 2), (0, u "java/lang/Integer"), (16, u "digits"), (0, u "[C"), (46, u "<init>"), (17, u "DigitOnes"), (0, u "[B"), (2, u "DigitTens"), (10, .nameAndType 67 101), (0, u "()V"), (19, u "()I"), (65, u "valueOf"), (0, u "(I)Ljava/lang/Integer;"), (0, .class_ 190), (0, u "java/lang/Integer$IntegerCache"), (0, .fieldref 189 192), (0, .nameAndType 193 194), (0, u "high"), (0, u "I"), (0, .fieldref 189 196), (0, .nameAndType 197 198), (0, u "cache"), (0, u "[Ljava/lang/Integer;"), (0, .methodref 1 200), (0, .nameAndType 67 201), (0, u "(I)V"), (0, .methodref 203 100), (0, .class_ 204), (0, u "java/lang/Number"), (0, .fieldref 1 206), (0, .nameAndType 207 194), (0, u "value"), (5, u "intValue"), (88, u "TYPE"), (0, u "Ljava/lang/Class;"), (0, .class_ 305), (0, u "java/lang/Comparable"), (0, .class_ 307), (0, u "java/lang/constant/Constable"), (0, .class_ 309), (0, u "java/lang/constant/ConstantDesc"), (0, u "MIN_VALUE"), (1, u "MAX_VALUE"), (3, u "SIZE"), (1, u "BYTES"), (1, u "serialVersionUID"), (0, u "J")] 131

def k7c0 : Code := { maxStack := 3, maxLocals := 1, code := jdk_33_method_22_code, exceptionTable := #[], attributes := #[] }
def k7m0 : Method := { name := "valueOf", desc := "(I)Ljava/lang/Integer;", sig := { parameters := [.int], returnType := some (.object "java/lang/Integer") }, accessFlags := 9, code := some k7c0 }
def k7c1 : Code := { maxStack := 2, maxLocals := 2, code := jdk_33_method_23_code, exceptionTable := #[], attributes := #[] }
def k7m1 : Method := { name := "<init>", desc := "(I)V", sig := { parameters := [.int], returnType := none }, accessFlags := 1, code := some k7c1 }
def k7c2 : Code := { maxStack := 1, maxLocals := 1, code := jdk_33_method_27_code, exceptionTable := #[], attributes := #[] }
def k7m2 : Method := { name := "intValue", desc := "()I", sig := { parameters := [], returnType := some .int }, accessFlags := 1, code := some k7c2 }
/-- java/lang/Integer -/
def k7 : Class := { plain "java/lang/Integer" (some 3) with
  accessFlags := 49
  interfaces := #[4, 5, 6]
  cf := some (fileOf pool7 1 #[.nestMembers #[189]] #[{ accessFlags := 9, nameIndex := 187, descriptorIndex := 188, attributes := #[] }, { accessFlags := 1, nameIndex := 67, descriptorIndex := 201, attributes := #[] }, { accessFlags := 1, nameIndex := 213, descriptorIndex := 121, attributes := #[] }] 49 203 #[304, 306, 308] #[{ accessFlags := 25, nameIndex := 310, descriptorIndex := 194, attributes := #[] }, { accessFlags := 25, nameIndex := 312, descriptorIndex := 194, attributes := #[] }, { accessFlags := 25, nameIndex := 302, descriptorIndex := 303, attributes := #[] }, { accessFlags := 24, nameIndex := 19, descriptorIndex := 20, attributes := #[] }, { accessFlags := 24, nameIndex := 89, descriptorIndex := 86, attributes := #[] }, { accessFlags := 24, nameIndex := 85, descriptorIndex := 86, attributes := #[] }, { accessFlags := 18, nameIndex := 207, descriptorIndex := 194, attributes := #[] }, { accessFlags := 25, nameIndex := 316, descriptorIndex := 194, attributes := #[] }, { accessFlags := 25, nameIndex := 318, descriptorIndex := 194, attributes := #[] }, { accessFlags := 26, nameIndex := 320, descriptorIndex := 321, attributes := #[] }])
  fields := #[{ name := "MIN_VALUE", type := .int, accessFlags := 25, slot := 0, constantValue := 0 }, { name := "MAX_VALUE", type := .int, accessFlags := 25, slot := 1, constantValue := 0 }, { name := "TYPE", type := (.object "java/lang/Class"), accessFlags := 25, slot := 2, constantValue := 0 }, { name := "digits", type := (.array .char), accessFlags := 24, slot := 3, constantValue := 0 }, { name := "DigitTens", type := (.array .byte), accessFlags := 24, slot := 4, constantValue := 0 }, { name := "DigitOnes", type := (.array .byte), accessFlags := 24, slot := 5, constantValue := 0 }, { name := "value", type := .int, accessFlags := 18, slot := 0, constantValue := 0 }, { name := "SIZE", type := .int, accessFlags := 25, slot := 6, constantValue := 0 }, { name := "BYTES", type := .int, accessFlags := 25, slot := 7, constantValue := 0 }, { name := "serialVersionUID", type := .long, accessFlags := 26, slot := 8, constantValue := 0 }]
  methods := #[k7m0, k7m1, k7m2]
  instanceTypes := #[.int]
  staticTypes := #[.int, .int, (.object "java/lang/Class"), (.array .char), (.array .byte), (.array .byte), .int, .int, .long]
  resolved := Array.replicate 453 none
  statics := none }

def pool8 : Array CpInfo := pool [(2, .class_ 4), (1, u "java/lang/Object"), (0, u "<init>"), (0, u "()V"), (0, .class_ 8), (0, u "java/lang/Integer"), (7, .class_ 18), (1, u "java/lang/Integer$IntegerCache"), (0, u "$assertionsDisabled"), (0, u "Z"), (26, u "high"), (0, u "I"), (8, u "archivedCache"), (0, u "[Ljava/lang/Integer;"), (12, u "cache"), (0, u "low")] 27

def k8m0 : Method := { name := "<init>", desc := "()V", sig := { parameters := [], returnType := none }, accessFlags := 2, code := none }
/-- java/lang/Integer$IntegerCache -/
def k8 : Class := { plain "java/lang/Integer$IntegerCache" (some 0) with
  accessFlags := 48
  interfaces := #[]
  cf := some (fileOf pool8 16 #[.nestHost 7] #[{ accessFlags := 2, nameIndex := 5, descriptorIndex := 6, attributes := #[] }] 48 2 #[] #[{ accessFlags := 24, nameIndex := 72, descriptorIndex := 48, attributes := #[] }, { accessFlags := 24, nameIndex := 47, descriptorIndex := 48, attributes := #[] }, { accessFlags := 24, nameIndex := 71, descriptorIndex := 58, attributes := #[] }, { accessFlags := 8, nameIndex := 57, descriptorIndex := 58, attributes := #[] }, { accessFlags := 4120, nameIndex := 19, descriptorIndex := 20, attributes := #[] }])
  fields := #[{ name := "low", type := .int, accessFlags := 24, slot := 0, constantValue := 0 }, { name := "high", type := .int, accessFlags := 24, slot := 1, constantValue := 0 }, { name := "cache", type := (.array (.object "java/lang/Integer")), accessFlags := 24, slot := 2, constantValue := 0 }, { name := "archivedCache", type := (.array (.object "java/lang/Integer")), accessFlags := 8, slot := 3, constantValue := 0 }, { name := "$assertionsDisabled", type := .boolean, accessFlags := 4120, slot := 4, constantValue := 0 }]
  methods := #[k8m0]
  instanceTypes := #[]
  staticTypes := #[.int, .int, (.array (.object "java/lang/Integer")), (.array (.object "java/lang/Integer")), .boolean]
  resolved := Array.replicate 100 none
  statics := some 0 }

def pool9 : Array CpInfo := pool [(1, .methodref 2 3), (0, .class_ 4), (0, .nameAndType 5 6), (0, u "java/lang/Integer"), (0, u "intValue"), (0, u "()I"), (0, .class_ 8), (0, u "com/example/spool/spool/model/Endpoint"), (0, .fieldref 10 11), (0, .class_ 12), (0, .nameAndType 13 14), (0, u "com/example/spool/spool/model/DisabledReason"), (0, u "GONE"), (0, u "Lcom/example/spool/spool/model/DisabledReason;"), (0, .fieldref 10 16), (0, .nameAndType 17 14), (0, u "FAILING"), (14, u "OWNER_RULE"), (0, u "Ljava/lang/String;"), (9, .class_ 45), (1, u "java/lang/Object"), (13, u "_id"), (6, u "_url"), (0, u "Ljava/net/URI;"), (4, u "_owner"), (8, u "_eventTypes"), (0, u "Ljava/util/List;"), (6, u "_signingSecret"), (0, u "Lcom/example/spool/spool/signing/SigningSecret;"), (6, u "_retrySchedule"), (0, u "Lcom/example/spool/spool/model/RetrySchedule;"), (6, u "_status"), (0, u "Lcom/example/spool/spool/model/EndpointStatus;"), (2, u "_disabledReason"), (2, u "_consecutiveFailures"), (0, u "I"), (6, u "_createdAt"), (0, u "Ljava/time/Instant;"), (4, u "MAX_OWNER_LENGTH"), (2, u "MAX_CONSECUTIVE_FAILURES"), (4, u "disabledBy"), (0, u "(Ljava/lang/Integer;I)Lcom/example/spool/spool/model/DisabledReason;")] 36

def k9c0 : Code := { maxStack := 2, maxLocals := 2, code := prog_8_method_1_code, exceptionTable := #[], attributes := #[] }
def k9m0 : Method := { name := "disabledBy", desc := "(Ljava/lang/Integer;I)Lcom/example/spool/spool/model/DisabledReason;", sig := { parameters := [(.object "java/lang/Integer"), .int], returnType := some (.object "com/example/spool/spool/model/DisabledReason") }, accessFlags := 9, code := some k9c0 }
/-- com/example/spool/spool/model/Endpoint -/
def k9 : Class := { plain "com/example/spool/spool/model/Endpoint" (some 0) with
  accessFlags := 49
  interfaces := #[]
  cf := some (fileOf pool9 7 #[] #[{ accessFlags := 9, nameIndex := 134, descriptorIndex := 135, attributes := #[] }] 49 43 #[] #[{ accessFlags := 25, nameIndex := 126, descriptorIndex := 113, attributes := #[] }, { accessFlags := 25, nameIndex := 32, descriptorIndex := 33, attributes := #[] }, { accessFlags := 25, nameIndex := 129, descriptorIndex := 113, attributes := #[] }, { accessFlags := 25, nameIndex := 13, descriptorIndex := 113, attributes := #[] }, { accessFlags := 18, nameIndex := 59, descriptorIndex := 33, attributes := #[] }, { accessFlags := 18, nameIndex := 66, descriptorIndex := 67, attributes := #[] }, { accessFlags := 18, nameIndex := 72, descriptorIndex := 33, attributes := #[] }, { accessFlags := 18, nameIndex := 81, descriptorIndex := 82, attributes := #[] }, { accessFlags := 18, nameIndex := 89, descriptorIndex := 90, attributes := #[] }, { accessFlags := 18, nameIndex := 97, descriptorIndex := 98, attributes := #[] }, { accessFlags := 18, nameIndex := 105, descriptorIndex := 106, attributes := #[] }, { accessFlags := 18, nameIndex := 109, descriptorIndex := 14, attributes := #[] }, { accessFlags := 18, nameIndex := 112, descriptorIndex := 113, attributes := #[] }, { accessFlags := 18, nameIndex := 120, descriptorIndex := 121, attributes := #[] }])
  fields := #[{ name := "MAX_OWNER_LENGTH", type := .int, accessFlags := 25, slot := 0, constantValue := 0 }, { name := "OWNER_RULE", type := (.object "java/lang/String"), accessFlags := 25, slot := 1, constantValue := 0 }, { name := "MAX_CONSECUTIVE_FAILURES", type := .int, accessFlags := 25, slot := 2, constantValue := 0 }, { name := "GONE", type := .int, accessFlags := 25, slot := 3, constantValue := 0 }, { name := "_id", type := (.object "java/lang/String"), accessFlags := 18, slot := 0, constantValue := 0 }, { name := "_url", type := (.object "java/net/URI"), accessFlags := 18, slot := 1, constantValue := 0 }, { name := "_owner", type := (.object "java/lang/String"), accessFlags := 18, slot := 2, constantValue := 0 }, { name := "_eventTypes", type := (.object "java/util/List"), accessFlags := 18, slot := 3, constantValue := 0 }, { name := "_signingSecret", type := (.object "com/example/spool/spool/signing/SigningSecret"), accessFlags := 18, slot := 4, constantValue := 0 }, { name := "_retrySchedule", type := (.object "com/example/spool/spool/model/RetrySchedule"), accessFlags := 18, slot := 5, constantValue := 0 }, { name := "_status", type := (.object "com/example/spool/spool/model/EndpointStatus"), accessFlags := 18, slot := 6, constantValue := 0 }, { name := "_disabledReason", type := (.object "com/example/spool/spool/model/DisabledReason"), accessFlags := 18, slot := 7, constantValue := 0 }, { name := "_consecutiveFailures", type := .int, accessFlags := 18, slot := 8, constantValue := 0 }, { name := "_createdAt", type := (.object "java/time/Instant"), accessFlags := 18, slot := 9, constantValue := 0 }]
  methods := #[k9m0]
  instanceTypes := #[(.object "java/lang/String"), (.object "java/net/URI"), (.object "java/lang/String"), (.object "java/util/List"), (.object "com/example/spool/spool/signing/SigningSecret"), (.object "com/example/spool/spool/model/RetrySchedule"), (.object "com/example/spool/spool/model/EndpointStatus"), (.object "com/example/spool/spool/model/DisabledReason"), .int, (.object "java/time/Instant")]
  staticTypes := #[.int, (.object "java/lang/String"), .int, .int]
  resolved := Array.replicate 172 none
  statics := none }

def pool10 : Array CpInfo := pool [(2, .class_ 4), (1, u "java/lang/Enum"), (0, u "name"), (0, u "Ljava/lang/String;"), (2, u "ordinal"), (0, u "I"), (1, .class_ 14), (1, u "java/lang/Object"), (4, u "hash"), (86, .class_ 108), (1, u "java/lang/Enum$EnumDesc"), (2, .class_ 112), (0, u "java/lang/constant/Constable"), (0, .class_ 114), (0, u "java/lang/Comparable"), (0, .class_ 116), (0, u "java/io/Serializable")] 87

/-- java/lang/Enum -/
def k10 : Class := { plain "java/lang/Enum" (some 0) with
  accessFlags := 1057
  interfaces := #[5, 4, 2]
  cf := some (fileOf pool10 2 #[.nestMembers #[106]] #[] 1057 12 #[111, 113, 115] #[{ accessFlags := 18, nameIndex := 5, descriptorIndex := 6, attributes := #[] }, { accessFlags := 18, nameIndex := 9, descriptorIndex := 10, attributes := #[] }, { accessFlags := 2, nameIndex := 19, descriptorIndex := 10, attributes := #[] }])
  fields := #[{ name := "name", type := (.object "java/lang/String"), accessFlags := 18, slot := 0, constantValue := 0 }, { name := "ordinal", type := .int, accessFlags := 18, slot := 1, constantValue := 0 }, { name := "hash", type := .int, accessFlags := 2, slot := 2, constantValue := 0 }]
  methods := #[]
  instanceTypes := #[(.object "java/lang/String"), .int, .int]
  staticTypes := #[]
  resolved := Array.replicate 204 none
  statics := none }

def pool11 : Array CpInfo := pool [(1, .class_ 2), (0, u "com/example/spool/spool/model/DisabledReason"), (2, u "GONE"), (0, u "Lcom/example/spool/spool/model/DisabledReason;"), (2, u "FAILING"), (2, u "$VALUES"), (0, u "[Lcom/example/spool/spool/model/DisabledReason;"), (6, .class_ 22), (1, u "java/lang/Enum")] 75

/-- com/example/spool/spool/model/DisabledReason -/
def k11 : Class := { plain "com/example/spool/spool/model/DisabledReason" (some 10) with
  accessFlags := 16433
  interfaces := #[]
  cf := some (fileOf pool11 1 #[] #[] 16433 20 #[] #[{ accessFlags := 16409, nameIndex := 5, descriptorIndex := 6, attributes := #[] }, { accessFlags := 16409, nameIndex := 9, descriptorIndex := 6, attributes := #[] }, { accessFlags := 4122, nameIndex := 12, descriptorIndex := 13, attributes := #[] }])
  fields := #[{ name := "GONE", type := (.object "com/example/spool/spool/model/DisabledReason"), accessFlags := 16409, slot := 0, constantValue := 0 }, { name := "FAILING", type := (.object "com/example/spool/spool/model/DisabledReason"), accessFlags := 16409, slot := 1, constantValue := 0 }, { name := "$VALUES", type := (.array (.object "com/example/spool/spool/model/DisabledReason")), accessFlags := 4122, slot := 2, constantValue := 0 }]
  methods := #[]
  instanceTypes := #[(.object "java/lang/String"), .int, .int]
  staticTypes := #[(.object "com/example/spool/spool/model/DisabledReason"), (.object "com/example/spool/spool/model/DisabledReason"), (.array (.object "com/example/spool/spool/model/DisabledReason"))]
  resolved := Array.replicate 98 none
  statics := some 1 }

def pool12 : Array CpInfo := pool [(1, u "java/lang/Cloneable"), (0, .class_ 1), (0, u "java/lang/Object"), (0, .class_ 3)] 3

/-- java/lang/Cloneable -/
def k12 : Class := { plain "java/lang/Cloneable" (some 0) with
  accessFlags := 1537
  interfaces := #[]
  cf := some (fileOf pool12 2 #[] #[] 1537 4 #[] #[])
  fields := #[]
  methods := #[]
  instanceTypes := #[]
  staticTypes := #[]
  resolved := Array.replicate 8 none
  statics := none }

/-- the primitive byte -/
def k13 : Class := { plain "byte" none with kind := .primitive 'B', accessFlags := 0x411 }
/-- [B -/
def k14 : Class := { plain "[B" (some 0) with kind := .array 13 .byte, interfaces := #[12, 2], accessFlags := 1041 }

/-- the primitive int -/
def k15 : Class := { plain "int" none with kind := .primitive 'I', accessFlags := 0x411 }
/-- [I -/
def k16 : Class := { plain "[I" (some 0) with kind := .array 15 .int, interfaces := #[12, 2], accessFlags := 1041 }

/-- [Ljava/lang/Integer; -/
def k17 : Class := { plain "[Ljava/lang/Integer;" (some 0) with kind := .array 7 (.object "java/lang/Integer"), interfaces := #[12, 2], accessFlags := 1041 }

def heap : Heap := #[{ cls := 8, slots := #[.int 0, .int 127, .ref 2, .null, .int 0], vm := .statics 8 },
  { cls := 11, slots := #[.ref 259, .ref 260, .null], vm := .statics 11 },
  { cls := 17, slots := #[.ref 3, .ref 4, .ref 5, .ref 6, .ref 7, .ref 8, .ref 9, .ref 10, .ref 11, .ref 12, .ref 13, .ref 14, .ref 15, .ref 16, .ref 17, .ref 18, .ref 19, .ref 20, .ref 21, .ref 22, .ref 23, .ref 24, .ref 25, .ref 26, .ref 27, .ref 28, .ref 29, .ref 30, .ref 31, .ref 32, .ref 33, .ref 34, .ref 35, .ref 36, .ref 37, .ref 38, .ref 39, .ref 40, .ref 41, .ref 42, .ref 43, .ref 44, .ref 45, .ref 46, .ref 47, .ref 48, .ref 49, .ref 50, .ref 51, .ref 52, .ref 53, .ref 54, .ref 55, .ref 56, .ref 57, .ref 58, .ref 59, .ref 60, .ref 61, .ref 62, .ref 63, .ref 64, .ref 65, .ref 66, .ref 67, .ref 68, .ref 69, .ref 70, .ref 71, .ref 72, .ref 73, .ref 74, .ref 75, .ref 76, .ref 77, .ref 78, .ref 79, .ref 80, .ref 81, .ref 82, .ref 83, .ref 84, .ref 85, .ref 86, .ref 87, .ref 88, .ref 89, .ref 90, .ref 91, .ref 92, .ref 93, .ref 94, .ref 95, .ref 96, .ref 97, .ref 98, .ref 99, .ref 100, .ref 101, .ref 102, .ref 103, .ref 104, .ref 105, .ref 106, .ref 107, .ref 108, .ref 109, .ref 110, .ref 111, .ref 112, .ref 113, .ref 114, .ref 115, .ref 116, .ref 117, .ref 118, .ref 119, .ref 120, .ref 121, .ref 122, .ref 123, .ref 124, .ref 125, .ref 126, .ref 127, .ref 128, .ref 129, .ref 130, .ref 131, .ref 132, .ref 133, .ref 134, .ref 135, .ref 136, .ref 137, .ref 138, .ref 139, .ref 140, .ref 141, .ref 142, .ref 143, .ref 144, .ref 145, .ref 146, .ref 147, .ref 148, .ref 149, .ref 150, .ref 151, .ref 152, .ref 153, .ref 154, .ref 155, .ref 156, .ref 157, .ref 158, .ref 159, .ref 160, .ref 161, .ref 162, .ref 163, .ref 164, .ref 165, .ref 166, .ref 167, .ref 168, .ref 169, .ref 170, .ref 171, .ref 172, .ref 173, .ref 174, .ref 175, .ref 176, .ref 177, .ref 178, .ref 179, .ref 180, .ref 181, .ref 182, .ref 183, .ref 184, .ref 185, .ref 186, .ref 187, .ref 188, .ref 189, .ref 190, .ref 191, .ref 192, .ref 193, .ref 194, .ref 195, .ref 196, .ref 197, .ref 198, .ref 199, .ref 200, .ref 201, .ref 202, .ref 203, .ref 204, .ref 205, .ref 206, .ref 207, .ref 208, .ref 209, .ref 210, .ref 211, .ref 212, .ref 213, .ref 214, .ref 215, .ref 216, .ref 217, .ref 218, .ref 219, .ref 220, .ref 221, .ref 222, .ref 223, .ref 224, .ref 225, .ref 226, .ref 227, .ref 228, .ref 229, .ref 230, .ref 231, .ref 232, .ref 233, .ref 234, .ref 235, .ref 236, .ref 237, .ref 238, .ref 239, .ref 240, .ref 241, .ref 242, .ref 243, .ref 244, .ref 245, .ref 246, .ref 247, .ref 248, .ref 249, .ref 250, .ref 251, .ref 252, .ref 253, .ref 254, .ref 255, .ref 256, .ref 257, .ref 258], vm := .none },
  { cls := 7, slots := #[.int (-128)], vm := .none },
  { cls := 7, slots := #[.int (-127)], vm := .none },
  { cls := 7, slots := #[.int (-126)], vm := .none },
  { cls := 7, slots := #[.int (-125)], vm := .none },
  { cls := 7, slots := #[.int (-124)], vm := .none },
  { cls := 7, slots := #[.int (-123)], vm := .none },
  { cls := 7, slots := #[.int (-122)], vm := .none },
  { cls := 7, slots := #[.int (-121)], vm := .none },
  { cls := 7, slots := #[.int (-120)], vm := .none },
  { cls := 7, slots := #[.int (-119)], vm := .none },
  { cls := 7, slots := #[.int (-118)], vm := .none },
  { cls := 7, slots := #[.int (-117)], vm := .none },
  { cls := 7, slots := #[.int (-116)], vm := .none },
  { cls := 7, slots := #[.int (-115)], vm := .none },
  { cls := 7, slots := #[.int (-114)], vm := .none },
  { cls := 7, slots := #[.int (-113)], vm := .none },
  { cls := 7, slots := #[.int (-112)], vm := .none },
  { cls := 7, slots := #[.int (-111)], vm := .none },
  { cls := 7, slots := #[.int (-110)], vm := .none },
  { cls := 7, slots := #[.int (-109)], vm := .none },
  { cls := 7, slots := #[.int (-108)], vm := .none },
  { cls := 7, slots := #[.int (-107)], vm := .none },
  { cls := 7, slots := #[.int (-106)], vm := .none },
  { cls := 7, slots := #[.int (-105)], vm := .none },
  { cls := 7, slots := #[.int (-104)], vm := .none },
  { cls := 7, slots := #[.int (-103)], vm := .none },
  { cls := 7, slots := #[.int (-102)], vm := .none },
  { cls := 7, slots := #[.int (-101)], vm := .none },
  { cls := 7, slots := #[.int (-100)], vm := .none },
  { cls := 7, slots := #[.int (-99)], vm := .none },
  { cls := 7, slots := #[.int (-98)], vm := .none },
  { cls := 7, slots := #[.int (-97)], vm := .none },
  { cls := 7, slots := #[.int (-96)], vm := .none },
  { cls := 7, slots := #[.int (-95)], vm := .none },
  { cls := 7, slots := #[.int (-94)], vm := .none },
  { cls := 7, slots := #[.int (-93)], vm := .none },
  { cls := 7, slots := #[.int (-92)], vm := .none },
  { cls := 7, slots := #[.int (-91)], vm := .none },
  { cls := 7, slots := #[.int (-90)], vm := .none },
  { cls := 7, slots := #[.int (-89)], vm := .none },
  { cls := 7, slots := #[.int (-88)], vm := .none },
  { cls := 7, slots := #[.int (-87)], vm := .none },
  { cls := 7, slots := #[.int (-86)], vm := .none },
  { cls := 7, slots := #[.int (-85)], vm := .none },
  { cls := 7, slots := #[.int (-84)], vm := .none },
  { cls := 7, slots := #[.int (-83)], vm := .none },
  { cls := 7, slots := #[.int (-82)], vm := .none },
  { cls := 7, slots := #[.int (-81)], vm := .none },
  { cls := 7, slots := #[.int (-80)], vm := .none },
  { cls := 7, slots := #[.int (-79)], vm := .none },
  { cls := 7, slots := #[.int (-78)], vm := .none },
  { cls := 7, slots := #[.int (-77)], vm := .none },
  { cls := 7, slots := #[.int (-76)], vm := .none },
  { cls := 7, slots := #[.int (-75)], vm := .none },
  { cls := 7, slots := #[.int (-74)], vm := .none },
  { cls := 7, slots := #[.int (-73)], vm := .none },
  { cls := 7, slots := #[.int (-72)], vm := .none },
  { cls := 7, slots := #[.int (-71)], vm := .none },
  { cls := 7, slots := #[.int (-70)], vm := .none },
  { cls := 7, slots := #[.int (-69)], vm := .none },
  { cls := 7, slots := #[.int (-68)], vm := .none },
  { cls := 7, slots := #[.int (-67)], vm := .none },
  { cls := 7, slots := #[.int (-66)], vm := .none },
  { cls := 7, slots := #[.int (-65)], vm := .none },
  { cls := 7, slots := #[.int (-64)], vm := .none },
  { cls := 7, slots := #[.int (-63)], vm := .none },
  { cls := 7, slots := #[.int (-62)], vm := .none },
  { cls := 7, slots := #[.int (-61)], vm := .none },
  { cls := 7, slots := #[.int (-60)], vm := .none },
  { cls := 7, slots := #[.int (-59)], vm := .none },
  { cls := 7, slots := #[.int (-58)], vm := .none },
  { cls := 7, slots := #[.int (-57)], vm := .none },
  { cls := 7, slots := #[.int (-56)], vm := .none },
  { cls := 7, slots := #[.int (-55)], vm := .none },
  { cls := 7, slots := #[.int (-54)], vm := .none },
  { cls := 7, slots := #[.int (-53)], vm := .none },
  { cls := 7, slots := #[.int (-52)], vm := .none },
  { cls := 7, slots := #[.int (-51)], vm := .none },
  { cls := 7, slots := #[.int (-50)], vm := .none },
  { cls := 7, slots := #[.int (-49)], vm := .none },
  { cls := 7, slots := #[.int (-48)], vm := .none },
  { cls := 7, slots := #[.int (-47)], vm := .none },
  { cls := 7, slots := #[.int (-46)], vm := .none },
  { cls := 7, slots := #[.int (-45)], vm := .none },
  { cls := 7, slots := #[.int (-44)], vm := .none },
  { cls := 7, slots := #[.int (-43)], vm := .none },
  { cls := 7, slots := #[.int (-42)], vm := .none },
  { cls := 7, slots := #[.int (-41)], vm := .none },
  { cls := 7, slots := #[.int (-40)], vm := .none },
  { cls := 7, slots := #[.int (-39)], vm := .none },
  { cls := 7, slots := #[.int (-38)], vm := .none },
  { cls := 7, slots := #[.int (-37)], vm := .none },
  { cls := 7, slots := #[.int (-36)], vm := .none },
  { cls := 7, slots := #[.int (-35)], vm := .none },
  { cls := 7, slots := #[.int (-34)], vm := .none },
  { cls := 7, slots := #[.int (-33)], vm := .none },
  { cls := 7, slots := #[.int (-32)], vm := .none },
  { cls := 7, slots := #[.int (-31)], vm := .none },
  { cls := 7, slots := #[.int (-30)], vm := .none },
  { cls := 7, slots := #[.int (-29)], vm := .none },
  { cls := 7, slots := #[.int (-28)], vm := .none },
  { cls := 7, slots := #[.int (-27)], vm := .none },
  { cls := 7, slots := #[.int (-26)], vm := .none },
  { cls := 7, slots := #[.int (-25)], vm := .none },
  { cls := 7, slots := #[.int (-24)], vm := .none },
  { cls := 7, slots := #[.int (-23)], vm := .none },
  { cls := 7, slots := #[.int (-22)], vm := .none },
  { cls := 7, slots := #[.int (-21)], vm := .none },
  { cls := 7, slots := #[.int (-20)], vm := .none },
  { cls := 7, slots := #[.int (-19)], vm := .none },
  { cls := 7, slots := #[.int (-18)], vm := .none },
  { cls := 7, slots := #[.int (-17)], vm := .none },
  { cls := 7, slots := #[.int (-16)], vm := .none },
  { cls := 7, slots := #[.int (-15)], vm := .none },
  { cls := 7, slots := #[.int (-14)], vm := .none },
  { cls := 7, slots := #[.int (-13)], vm := .none },
  { cls := 7, slots := #[.int (-12)], vm := .none },
  { cls := 7, slots := #[.int (-11)], vm := .none },
  { cls := 7, slots := #[.int (-10)], vm := .none },
  { cls := 7, slots := #[.int (-9)], vm := .none },
  { cls := 7, slots := #[.int (-8)], vm := .none },
  { cls := 7, slots := #[.int (-7)], vm := .none },
  { cls := 7, slots := #[.int (-6)], vm := .none },
  { cls := 7, slots := #[.int (-5)], vm := .none },
  { cls := 7, slots := #[.int (-4)], vm := .none },
  { cls := 7, slots := #[.int (-3)], vm := .none },
  { cls := 7, slots := #[.int (-2)], vm := .none },
  { cls := 7, slots := #[.int (-1)], vm := .none },
  { cls := 7, slots := #[.int (0)], vm := .none },
  { cls := 7, slots := #[.int (1)], vm := .none },
  { cls := 7, slots := #[.int (2)], vm := .none },
  { cls := 7, slots := #[.int (3)], vm := .none },
  { cls := 7, slots := #[.int (4)], vm := .none },
  { cls := 7, slots := #[.int (5)], vm := .none },
  { cls := 7, slots := #[.int (6)], vm := .none },
  { cls := 7, slots := #[.int (7)], vm := .none },
  { cls := 7, slots := #[.int (8)], vm := .none },
  { cls := 7, slots := #[.int (9)], vm := .none },
  { cls := 7, slots := #[.int (10)], vm := .none },
  { cls := 7, slots := #[.int (11)], vm := .none },
  { cls := 7, slots := #[.int (12)], vm := .none },
  { cls := 7, slots := #[.int (13)], vm := .none },
  { cls := 7, slots := #[.int (14)], vm := .none },
  { cls := 7, slots := #[.int (15)], vm := .none },
  { cls := 7, slots := #[.int (16)], vm := .none },
  { cls := 7, slots := #[.int (17)], vm := .none },
  { cls := 7, slots := #[.int (18)], vm := .none },
  { cls := 7, slots := #[.int (19)], vm := .none },
  { cls := 7, slots := #[.int (20)], vm := .none },
  { cls := 7, slots := #[.int (21)], vm := .none },
  { cls := 7, slots := #[.int (22)], vm := .none },
  { cls := 7, slots := #[.int (23)], vm := .none },
  { cls := 7, slots := #[.int (24)], vm := .none },
  { cls := 7, slots := #[.int (25)], vm := .none },
  { cls := 7, slots := #[.int (26)], vm := .none },
  { cls := 7, slots := #[.int (27)], vm := .none },
  { cls := 7, slots := #[.int (28)], vm := .none },
  { cls := 7, slots := #[.int (29)], vm := .none },
  { cls := 7, slots := #[.int (30)], vm := .none },
  { cls := 7, slots := #[.int (31)], vm := .none },
  { cls := 7, slots := #[.int (32)], vm := .none },
  { cls := 7, slots := #[.int (33)], vm := .none },
  { cls := 7, slots := #[.int (34)], vm := .none },
  { cls := 7, slots := #[.int (35)], vm := .none },
  { cls := 7, slots := #[.int (36)], vm := .none },
  { cls := 7, slots := #[.int (37)], vm := .none },
  { cls := 7, slots := #[.int (38)], vm := .none },
  { cls := 7, slots := #[.int (39)], vm := .none },
  { cls := 7, slots := #[.int (40)], vm := .none },
  { cls := 7, slots := #[.int (41)], vm := .none },
  { cls := 7, slots := #[.int (42)], vm := .none },
  { cls := 7, slots := #[.int (43)], vm := .none },
  { cls := 7, slots := #[.int (44)], vm := .none },
  { cls := 7, slots := #[.int (45)], vm := .none },
  { cls := 7, slots := #[.int (46)], vm := .none },
  { cls := 7, slots := #[.int (47)], vm := .none },
  { cls := 7, slots := #[.int (48)], vm := .none },
  { cls := 7, slots := #[.int (49)], vm := .none },
  { cls := 7, slots := #[.int (50)], vm := .none },
  { cls := 7, slots := #[.int (51)], vm := .none },
  { cls := 7, slots := #[.int (52)], vm := .none },
  { cls := 7, slots := #[.int (53)], vm := .none },
  { cls := 7, slots := #[.int (54)], vm := .none },
  { cls := 7, slots := #[.int (55)], vm := .none },
  { cls := 7, slots := #[.int (56)], vm := .none },
  { cls := 7, slots := #[.int (57)], vm := .none },
  { cls := 7, slots := #[.int (58)], vm := .none },
  { cls := 7, slots := #[.int (59)], vm := .none },
  { cls := 7, slots := #[.int (60)], vm := .none },
  { cls := 7, slots := #[.int (61)], vm := .none },
  { cls := 7, slots := #[.int (62)], vm := .none },
  { cls := 7, slots := #[.int (63)], vm := .none },
  { cls := 7, slots := #[.int (64)], vm := .none },
  { cls := 7, slots := #[.int (65)], vm := .none },
  { cls := 7, slots := #[.int (66)], vm := .none },
  { cls := 7, slots := #[.int (67)], vm := .none },
  { cls := 7, slots := #[.int (68)], vm := .none },
  { cls := 7, slots := #[.int (69)], vm := .none },
  { cls := 7, slots := #[.int (70)], vm := .none },
  { cls := 7, slots := #[.int (71)], vm := .none },
  { cls := 7, slots := #[.int (72)], vm := .none },
  { cls := 7, slots := #[.int (73)], vm := .none },
  { cls := 7, slots := #[.int (74)], vm := .none },
  { cls := 7, slots := #[.int (75)], vm := .none },
  { cls := 7, slots := #[.int (76)], vm := .none },
  { cls := 7, slots := #[.int (77)], vm := .none },
  { cls := 7, slots := #[.int (78)], vm := .none },
  { cls := 7, slots := #[.int (79)], vm := .none },
  { cls := 7, slots := #[.int (80)], vm := .none },
  { cls := 7, slots := #[.int (81)], vm := .none },
  { cls := 7, slots := #[.int (82)], vm := .none },
  { cls := 7, slots := #[.int (83)], vm := .none },
  { cls := 7, slots := #[.int (84)], vm := .none },
  { cls := 7, slots := #[.int (85)], vm := .none },
  { cls := 7, slots := #[.int (86)], vm := .none },
  { cls := 7, slots := #[.int (87)], vm := .none },
  { cls := 7, slots := #[.int (88)], vm := .none },
  { cls := 7, slots := #[.int (89)], vm := .none },
  { cls := 7, slots := #[.int (90)], vm := .none },
  { cls := 7, slots := #[.int (91)], vm := .none },
  { cls := 7, slots := #[.int (92)], vm := .none },
  { cls := 7, slots := #[.int (93)], vm := .none },
  { cls := 7, slots := #[.int (94)], vm := .none },
  { cls := 7, slots := #[.int (95)], vm := .none },
  { cls := 7, slots := #[.int (96)], vm := .none },
  { cls := 7, slots := #[.int (97)], vm := .none },
  { cls := 7, slots := #[.int (98)], vm := .none },
  { cls := 7, slots := #[.int (99)], vm := .none },
  { cls := 7, slots := #[.int (100)], vm := .none },
  { cls := 7, slots := #[.int (101)], vm := .none },
  { cls := 7, slots := #[.int (102)], vm := .none },
  { cls := 7, slots := #[.int (103)], vm := .none },
  { cls := 7, slots := #[.int (104)], vm := .none },
  { cls := 7, slots := #[.int (105)], vm := .none },
  { cls := 7, slots := #[.int (106)], vm := .none },
  { cls := 7, slots := #[.int (107)], vm := .none },
  { cls := 7, slots := #[.int (108)], vm := .none },
  { cls := 7, slots := #[.int (109)], vm := .none },
  { cls := 7, slots := #[.int (110)], vm := .none },
  { cls := 7, slots := #[.int (111)], vm := .none },
  { cls := 7, slots := #[.int (112)], vm := .none },
  { cls := 7, slots := #[.int (113)], vm := .none },
  { cls := 7, slots := #[.int (114)], vm := .none },
  { cls := 7, slots := #[.int (115)], vm := .none },
  { cls := 7, slots := #[.int (116)], vm := .none },
  { cls := 7, slots := #[.int (117)], vm := .none },
  { cls := 7, slots := #[.int (118)], vm := .none },
  { cls := 7, slots := #[.int (119)], vm := .none },
  { cls := 7, slots := #[.int (120)], vm := .none },
  { cls := 7, slots := #[.int (121)], vm := .none },
  { cls := 7, slots := #[.int (122)], vm := .none },
  { cls := 7, slots := #[.int (123)], vm := .none },
  { cls := 7, slots := #[.int (124)], vm := .none },
  { cls := 7, slots := #[.int (125)], vm := .none },
  { cls := 7, slots := #[.int (126)], vm := .none },
  { cls := 7, slots := #[.int (127)], vm := .none },
  { cls := 11, slots := #[.null, .int 0, .int 0], vm := .none },
  { cls := 11, slots := #[.null, .int 1, .int 0], vm := .none }]
def classes : Array Class := #[k0, k1, k2, k3, k4, k5, k6, k7, k8, k9, k10, k11, k12, k13, k14, k15, k16, k17]
def interned : List (Array UInt16 × Addr) := []
def slotsUsed : Nat := 526
def theMethod : MethodId := ⟨1, 1⟩
def args0 : Array Value := #[.int 410, .int 5, .int 0]
def aboutOver (below : List Frame) : State where
  vm := { classes := classes, interned := interned.toArray }
  heap := heap
  slotsUsed := slotsUsed
  threads := #[{ frames := .invoking theMethod args0 :: below }]
def below0 : List Frame := [.native { method := ⟨0, 0⟩, args := #[] }]
def about1 : State := aboutOver below0
def p0 : Program := .bare "" "" ""
def e0 : Env := launch0.env 0 0 0
theorem w_frames : about1.frames = Frame.invoking theMethod args0 :: below0 := rfl
set_option maxRecDepth 65536 in
theorem w_args : argsFit about1.vm theMethod args0 = true := by decide +kernel
set_option maxRecDepth 65536 in
theorem w_heap : heapFits about1 = true := by decide +kernel
set_option maxRecDepth 65536 in
theorem w_runnable : about1.curStatus? = some .runnable := by decide +kernel
set_option maxRecDepth 65536 in
theorem w_alone : about1.alone = true := by decide +kernel
set_option maxRecDepth 65536 in
theorem w_named : about1.methodNamed? x = some theMethod := by decide +kernel
set_option maxRecDepth 65536 in
theorem w_hears : about1.hears theMethod below0 = true := by decide +kernel
set_option maxRecDepth 65536 in
theorem w_ripe : about1.ripe theMethod args0 below0 = true := by decide +kernel
theorem w_running : about1.status = .running := rfl
set_option maxRecDepth 65536 in
theorem w_room : about1.hasRoom e0.platform room_1 = true :=
  launch0.hasRoom_least _ room_1 (by decide +kernel) (by decide +kernel) (by decide +kernel) (by decide +kernel) (by decide +kernel) (by decide +kernel)
theorem allAtoms_all (ts : List Jvm.Cond) (a : Array Jvm.Value) (st : Jvm.State) : (allAtoms ts).before a st = ts.all (fun c => c.before a st) := by
  induction ts with
  | nil => rfl
  | cons c t ih =>
    show (Jvm.Cond.and c (allAtoms t)).before a st = _
    rw [Jvm.Cond.before_and, ih, List.all_cons]
def words1 : List Jvm.Cond := Jvm.Cond.code x code maxLocals ret :: tables_1
/-- a 'code' word, met by the world's own term for the bytes: nothing is compared byte by byte -/
theorem code_word {y : MethodName} {bytes : ByteArray} {mx : Nat} {rt : Option FieldType} {a : Array Value} {s : State} {m : MethodId} {meth : Method} {c : Code} (h1 : s.methodNamed? y = some m) (h2 : s.vm.method? m = some meth) (h3 : meth.code = some c) (h4 : c.code = bytes)
    (h5 : (c.maxLocals == mx && c.exceptionTable.isEmpty && decide (c.maxStack ≤ mostOperands) && decide (meth.sig.returnType = rt) && !meth.locks && decide (parseMethodDescriptor y.desc = some meth.sig)) = true) : (Jvm.Cond.code y bytes mx rt).before a s = true := by
  simp only [Bool.and_eq_true, beq_iff_eq, Bool.not_eq_true', decide_eq_true_eq] at h5
  obtain ⟨⟨⟨⟨⟨g1, g2⟩, g3⟩, g4⟩, g5⟩, g6⟩ := h5
  simp [Cond.before, Cond.holds, Cond.value, h1, h2, h3, h4, g1, g2, g3, g4, g5, g6]
def isCode : Jvm.Cond → Bool
  | .code _ _ _ _ => true
  | _ => false
theorem all_split {L : List Jvm.Cond} {P : Jvm.Cond → Bool} (h1 : L.all (fun c => isCode c || P c) = true) (h2 : ∀ c ∈ L.filter isCode, P c = true) : L.all P = true := by
  refine List.all_eq_true.mpr fun c hc => ?_
  have h := List.all_eq_true.mp h1 c hc
  rcases Bool.eq_false_or_eq_true (isCode c) with hi | hi
  · exact h2 c (List.mem_filter.mpr ⟨hc, hi⟩)
  · simpa [hi] using h
set_option maxRecDepth 65536 in
theorem w_c0 : (Jvm.Cond.code x code maxLocals ret).before args0 about1 = true := code_word (m := ⟨1, 1⟩) (meth := k1m1) (c := k1c1) (by decide +kernel) rfl rfl rfl (by decide +kernel)
set_option maxRecDepth 65536 in
theorem w_c1 : (Jvm.Cond.code ({ cls := "java/lang/Integer", name := "valueOf", desc := "(I)Ljava/lang/Integer;" } : Jvm.MethodName) jdk_33_method_22_code (1 : Nat) (Option.some (Jvm.ClassFile.FieldType.object "java/lang/Integer"))).before args0 about1 = true := code_word (m := ⟨7, 0⟩) (meth := k7m0) (c := k7c0) (by decide +kernel) rfl rfl rfl (by decide +kernel)
set_option maxRecDepth 65536 in
theorem w_c2 : (Jvm.Cond.code ({ cls := "java/lang/Integer", name := "<init>", desc := "(I)V" } : Jvm.MethodName) jdk_33_method_23_code (2 : Nat) (Option.none : Option Jvm.ClassFile.FieldType)).before args0 about1 = true := code_word (m := ⟨7, 1⟩) (meth := k7m1) (c := k7c1) (by decide +kernel) rfl rfl rfl (by decide +kernel)
set_option maxRecDepth 65536 in
theorem w_c3 : (Jvm.Cond.code ({ cls := "java/lang/Number", name := "<init>", desc := "()V" } : Jvm.MethodName) jdk_18_method_1_code (1 : Nat) (Option.none : Option Jvm.ClassFile.FieldType)).before args0 about1 = true := code_word (m := ⟨3, 0⟩) (meth := k3m0) (c := k3c0) (by decide +kernel) rfl rfl rfl (by decide +kernel)
set_option maxRecDepth 65536 in
theorem w_c4 : (Jvm.Cond.code ({ cls := "java/lang/Object", name := "<init>", desc := "()V" } : Jvm.MethodName) object_method_1_code (1 : Nat) (Option.none : Option Jvm.ClassFile.FieldType)).before args0 about1 = true := code_word (m := ⟨0, 0⟩) (meth := k0m0) (c := k0c0) (by decide +kernel) rfl rfl rfl (by decide +kernel)
set_option maxRecDepth 65536 in
theorem w_c5 : (Jvm.Cond.code ({ cls := "com/example/spool/spool/model/Endpoint", name := "disabledBy", desc := "(Ljava/lang/Integer;I)Lcom/example/spool/spool/model/DisabledReason;" } : Jvm.MethodName) prog_8_method_1_code (2 : Nat) (Option.some (Jvm.ClassFile.FieldType.object "com/example/spool/spool/model/DisabledReason"))).before args0 about1 = true := code_word (m := ⟨9, 0⟩) (meth := k9m0) (c := k9c0) (by decide +kernel) rfl rfl rfl (by decide +kernel)
set_option maxRecDepth 65536 in
theorem w_c6 : (Jvm.Cond.code ({ cls := "java/lang/Integer", name := "intValue", desc := "()I" } : Jvm.MethodName) jdk_33_method_27_code (1 : Nat) (Option.some Jvm.ClassFile.FieldType.int)).before args0 about1 = true := code_word (m := ⟨7, 2⟩) (meth := k7m2) (c := k7c2) (by decide +kernel) rfl rfl rfl (by decide +kernel)
def codes1 : List Jvm.Cond := [Jvm.Cond.code x code maxLocals ret, Jvm.Cond.code ({ cls := "java/lang/Integer", name := "valueOf", desc := "(I)Ljava/lang/Integer;" } : Jvm.MethodName) jdk_33_method_22_code (1 : Nat) (Option.some (Jvm.ClassFile.FieldType.object "java/lang/Integer")), Jvm.Cond.code ({ cls := "java/lang/Integer", name := "<init>", desc := "(I)V" } : Jvm.MethodName) jdk_33_method_23_code (2 : Nat) (Option.none : Option Jvm.ClassFile.FieldType), Jvm.Cond.code ({ cls := "java/lang/Number", name := "<init>", desc := "()V" } : Jvm.MethodName) jdk_18_method_1_code (1 : Nat) (Option.none : Option Jvm.ClassFile.FieldType), Jvm.Cond.code ({ cls := "java/lang/Object", name := "<init>", desc := "()V" } : Jvm.MethodName) object_method_1_code (1 : Nat) (Option.none : Option Jvm.ClassFile.FieldType), Jvm.Cond.code ({ cls := "com/example/spool/spool/model/Endpoint", name := "disabledBy", desc := "(Ljava/lang/Integer;I)Lcom/example/spool/spool/model/DisabledReason;" } : Jvm.MethodName) prog_8_method_1_code (2 : Nat) (Option.some (Jvm.ClassFile.FieldType.object "com/example/spool/spool/model/DisabledReason")), Jvm.Cond.code ({ cls := "java/lang/Integer", name := "intValue", desc := "()I" } : Jvm.MethodName) jdk_33_method_27_code (1 : Nat) (Option.some Jvm.ClassFile.FieldType.int)]
set_option maxRecDepth 65536 in
theorem codes_eq : words1.filter isCode = codes1 := rfl
theorem w_codes : ∀ c ∈ words1.filter isCode, c.before args0 about1 = true := by
  rw [codes_eq]
  intro c hc
  simp only [codes1, List.mem_cons, List.not_mem_nil, or_false] at hc
  rcases hc with rfl | rfl | rfl | rfl | rfl | rfl | rfl
  · exact w_c0
  · exact w_c1
  · exact w_c2
  · exact w_c3
  · exact w_c4
  · exact w_c5
  · exact w_c6
set_option maxRecDepth 65536 in
theorem w_t1 : (words1.take 24).all (fun c => isCode c || c.before args0 about1) = true := by decide +kernel
set_option maxRecDepth 65536 in
theorem w_t2 : (words1.drop 24).all (fun c => isCode c || c.before args0 about1) = true := by decide +kernel
theorem w_tables : (allAtoms (Jvm.Cond.code x code maxLocals ret :: tables_1)).before args0 about1 = true := by
  rw [allAtoms_all]
  show words1.all (fun c => c.before args0 about1) = true
  refine all_split ?_ w_codes
  rw [← List.take_append_drop 24 words1, List.all_append, w_t1, w_t2]
  rfl
set_option maxRecDepth 65536 in
theorem w_rest : rest_1_c.before args0 about1 = true := by decide +kernel
set_option maxRecDepth 65536 in
theorem w_case : (Jvm.Cond.and given_1 narrow_1).before args0 about1 = true := by decide +kernel
theorem w_applies : (headSpec (Jvm.Cond.code x code maxLocals ret :: tables_1) room_1).applies x e0.platform about1 = true :=
  (Spec.applies_iff w_frames).mpr ⟨w_running, w_runnable, w_alone, w_named, w_hears, w_ripe, w_room, w_tables⟩
theorem atStart : AtStart classFile x code maxLocals ret World_1 tables_1 room_1 Calls_1 rest_1 Pre_1 launch0 p0 e0 about1 theMethod args0 below0 :=
  ⟨lists_1, trivial, launch0.admits_env _ _ _, launch0.least_env, fairChoices_fair.cas, fairChoices_fair.clock, w_frames, w_args, w_heap, w_applies, trivial, w_rest, w_case⟩
end start1
theorem witness_1 : WitnessClaimed_1 := ⟨start1.p0, start1.e0, start1.about1, start1.theMethod, start1.args0, start1.below0, start1.atStart⟩
end Jvm.Pilot.@@N@@
