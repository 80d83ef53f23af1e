import JvmDerived
import JvmDerived.Pilot.@@N@@Statement
import JvmDerived.Pilot.@@N@@Code
set_option linter.unusedVariables false
set_option linter.unusedSimpArgs false
namespace Jvm.RoadKit
open Sem ClassFile Op Lib Jvm.Stand Jvm.Free Jvm.LawKit
section New
variable {p : Program} {l : Launch} {e : Env} {R : Room} {s : State} {m : MethodId} {args : Array Value} {below : List Frame} {meth : Method} {c : Code} {T : State} {locs : List Loc} {cells slots : Nat}
theorem retI (X : Stand p l e R s m args below meth c T locs cells slots) (hx : p.tables.exec = Jvm.exec) {pc : Nat} {Ls : Array Slot} {z : Int32} {rest : List Value} (hret : meth.sig.returnType = some .int) (hd : decode c.code pc = .ok (.ireturn, 1)) {fs : List Frame}
    (hl : ∀ (f : JFrame) (acts : List Action), f.method = m → f.locked = none → f.entered = [] → (doReturn e (T.setTop f) acts (some (.int z))).1 = T.setFrames fs) : Steps p.tables e below (T.setTop (mkF m pc Ls (.int z :: rest))) (T.setFrames fs) :=
  retOut X hx hret rfl (Or.inl ⟨rfl, Or.inl rfl, z, rfl⟩) hd hl
end New
end Jvm.RoadKit
namespace Jvm.Pilot.@@N@@
open Jvm Jvm.ClassFile Sem Op Lib Jvm.Free Jvm.Stand Jvm.LawKit Jvm.RoadKit Bundle Jvm.Pilot.@@N@@.Jvm.D
section OwnKit
variable {p : Program} {l : Launch} {e : Env} {R : Room} {s s' : State} {m : MethodId} {args : Array Value} {below : List Frame} {meth : Method} {c : Code} {T T' : State} {locs : List Loc} {cells slots : Nat} {g g' : JFrame} {Z : State} {a0 : Array Value} {h : Heap} {Q : Option Value → Heap → List Loc → Prop} {k n : Nat} {E : State → Outcome → State → List Loc → Nat → Nat → Prop}
/-- the run goes on from here to its end, and the end is as Q and the frame E say -/
def Fin (E : State → Outcome → State → List Loc → Nat → Nat → Prop) (p : Program) (e : Env) (below : List Frame) (s : State) (Q : Option Value → Heap → List Loc → Prop) (k n : Nat) (T : State) (g : JFrame) : Prop :=
  ∃ (s₂ : State) (o : Outcome), Steps p.tables e below (T.setTop g) s₂ ∧ s₂.status = .running ∧ Ended s₂ below o ∧ ∃ v L, o = .returned v ∧ Q v s₂.heap L ∧ E s o s₂ L k n
theorem Fin.go (st : ∀ t, Steps p.tables e below (T'.setTop g') t → Steps p.tables e below (T.setTop g) t) (w : Fin E p e below s Q k n T' g') : Fin E p e below s Q k n T g := by
  obtain ⟨s₂, o, h1, r⟩ := w
  exact ⟨s₂, o, st _ h1, r⟩
theorem Fin.came (st : Steps p.tables e below (T.setTop g) (T'.setTop g')) (w : Fin E p e below s Q k n T' g') : Fin E p e below s Q k n T g := by
  obtain ⟨s₂, o, h1, r⟩ := w
  exact ⟨s₂, o, st.trans h1, r⟩
theorem Fin.leaveN (X : Stand p l e R s m args below meth c T locs cells slots) (eT : T.heap = h) (hlk : meth.locks = false) {v : Option Value} (hv : meth.sig.returnType = none → v = none) (hk : cells ≤ k) (hn : slots ≤ n) (hq : Q v h locs)
    (st : ∀ fs, (∀ (f : JFrame) (acts : List Action), f.method = m → f.locked = none → f.entered = [] → (doReturn e (T.setTop f) acts v).1 = T.setFrames fs) → Steps p.tables e below (T.setTop g) (T.setFrames fs)) : Fin FrameEnd p e below s Q k n T g := by
  subst eT
  obtain ⟨fs, hr, hrun, hended, hW, hsame⟩ := X.leave hv hlk
  exact ⟨_, _, st fs hr, hrun, hended, v, locs, rfl, hq, ⟨v, rfl⟩, hW, hsame.mono hk hn⟩
/-- a body's contract: called with these arguments at this heap, it comes back as Q says -/
abbrev ConW (E : State → Outcome → State → List Loc → Nat → Nat → Prop) (l : Launch) (Z : State) (ws : List Jvm.Cond) (y : MethodName) (bytes : ByteArray) (maxL : Nat) (ret : Option FieldType) (rm : Room) (as' : Array Value) (h : Heap) (Q : Option Value → Heap → List Loc → Prop) : Prop :=
  MetFree l y (head1 (Jvm.Cond.code y bytes maxL ret :: ws) rm) (fun a U => a = as' ∧ Z.Warmed39 U.vm ∧ U.heap = h) (fun _ _ _ _ _ => True) (fun _ U o U' => ∃ v L, o = .returned v ∧ Q v U'.heap L ∧ E U o U' L rm.cells rm.slots)
abbrev Con (E : State → Outcome → State → List Loc → Nat → Nat → Prop) (l : Launch) (Z : State) (y : MethodName) (bytes : ByteArray) (maxL : Nat) (ret : Option FieldType) (rm : Room) (as' : Array Value) (h : Heap) (Q : Option Value → Heap → List Loc → Prop) : Prop := ConW E l Z [] y bytes maxL ret rm as' h Q
theorem conOf {ws : List Jvm.Cond} {y : MethodName} {bytes : ByteArray} {maxL : Nat} {ret : Option FieldType} {rm : Room} {as' : Array Value} (hpn : plainFor y = true)
    (body : ∀ (p : Program) (e : Env) (s : State) (m : MethodId) (below : List Frame) (meth : Method) (c : Code) (s₁ : State), Stand p l e rm s m as' below meth c s₁ [] 0 0 → p.tables.exec = Jvm.exec → c.code = bytes → c.maxLocals = maxL → s.vm.findClass y.cls = some m.cls → meth.name = y.name →
      meth.sig.returnType = ret → meth.locks = false → Z.Warmed39 s.vm → s₁.heap = h → Fin E p e below s Q rm.cells rm.slots s₁ (entryFrame m as' maxL)) : ConW E l Z ws y bytes maxL ret rm as' h Q := by
  refine MetFree.of_bodySF hpn hisR ?_
  intro p e s m args below meth c s₁ Bd hml hP hK
  obtain ⟨rfl, hZ, hh⟩ := hP
  exact body p e s m below meth c s₁ (Stand.of_body Bd) Bd.exec Bd.bytes hml (findClass_of_methodNamed Bd.named) (name_of_methodNamed Bd.named Bd.method).1 Bd.returns (BodyLoose.notSynchronized Bd) hZ (by rw [← hh, Bd.state]; rfl)
/-- nothing moved; r is returned -/
abbrev Pure (h0 : Heap) (r : Option Value) : Option Value → Heap → List Loc → Prop := fun v h L => v = r ∧ h = h0 ∧ L = []
theorem nar_refv {v : Value} {t : FieldType} (h : v.isRef = true) (ht : t.isReference = true) : narrow t v = v := by
  rcases ref_cases h with rfl | ⟨a, rfl⟩ <;> cases t <;> first | rfl | (simp [FieldType.isReference] at ht)
theorem fits_refv {v : Value} {t : FieldType} (h : v.isRef = true) (ht : t.isReference = true) : fits t v = true := by
  rcases ref_cases h with rfl | ⟨a, rfl⟩ <;> cases t <;> first | rfl | (simp [FieldType.isReference] at ht)
theorem nar_b8 (x : Int32) : nar .byte ((Int32.toInt8 x).toInt32) = (Int32.toInt8 x).toInt32 := by simp [nar]
theorem nar_c16 (x : Int32) : nar .char ((Int32.toUInt32 x).toUInt16.toUInt32.toInt32) = (Int32.toUInt32 x).toUInt16.toUInt32.toInt32 := by simp only [nar, UInt32.toUInt32_toInt32, UInt16.toUInt16_toUInt32]
section Calls
variable {own : String} {index : Nat} {y z : MethodName} {bytes : ByteArray} {maxL : Nat} {ret : Option FieldType} {rm : Room} {W : Nat} {Qc : Option Value → Heap → List Loc → Prop} {argsL rest : List Value}
theorem callSt (X : Stand p l e R s m args below meth c T locs cells slots) (hx : p.tables.exec = Jvm.exec) (hZ : Z.Warmed39 s.vm) (hown : s.vm.findClass own = some m.cls)
    (w1 : (Jvm.Cond.methodLink own index y).before a0 Z = true) (w2 : (Jvm.Cond.static y).before a0 Z = true) (w3 : (Jvm.Cond.initialized y.cls).before a0 Z = true) (w4 : (Jvm.Cond.code y bytes maxL ret).before a0 Z = true) (hy : y.cls ≠ "java/lang/invoke/MethodHandle" ∧ y.cls ≠ "java/lang/invoke/VarHandle")
    (hC : Con FrameEnd l Z y bytes maxL ret rm argsL.toArray h Qc) (eT : T.heap = h) (hf : rm.frames + 1 ≤ R.frames) (hl : W + (maxL + 11) + rm.locals ≤ R.locals) (hc : cells + rm.cells ≤ R.cells) (hs : slots + rm.slots ≤ R.slots)
    (hg : g.method = m) (hsize : g.locals.size = c.maxLocals) (hlen : ∀ sig, parseMethodDescriptor y.desc = some sig → argsL.length = sig.parameters.length) (hstack : g.stack = argsL.reverse ++ rest) (hW : 2 * g.monitorRoom + (rest.map fun v => v.category).sum ≤ W) (hdg : decode c.code g.pc = .ok (.invokestatic index, 3)) :
    ∃ (v : Option Value) (T' : State) (L : List Loc), Stand p l e R s m args below meth c T' (locs ++ L) (cells + rm.cells) (slots + rm.slots) ∧ Qc v T'.heap L ∧ ∀ target, Steps p.tables e below (T'.setTop { g with pc := g.pc + 3, stack := v.toList ++ rest }) target → Steps p.tables e below (T.setTop g) target := by
  obtain ⟨v, _, ⟨T2, L2, k2, n2⟩, -, X2, ⟨Lc2, hQ2, l2, y2, z2⟩, st2⟩ := Jvm.LawKit.callS X hx hown (mvT hZ w1) (mvT hZ w2) (mvT hZ w3) (mvT hZ w4) hy (backOf (W := W) hC hZ w4 w3 hf hl) hg hsize hlen hstack hW hdg (fun _ _ => ⟨rfl, eT, hc, hs⟩)
  dsimp only [Pt.U, Pt.locs, Pt.cells, Pt.slots] at X2 l2 y2 z2 st2 hQ2
  subst l2 y2 z2
  exact ⟨v, T2, Lc2, X2, hQ2, st2⟩
theorem callCt (X : Stand p l e R s m args below meth c T locs cells slots) (hx : p.tables.exec = Jvm.exec) (hZ : Z.Warmed39 s.vm) (hy1 : y.name = "<init>") (hown : s.vm.findClass own = some m.cls)
    (w1 : (Jvm.Cond.methodLink own index y).before a0 Z = true) (w2 : (Jvm.Cond.instanceMethod y).before a0 Z = true) (w3 : (Jvm.Cond.initialized y.cls).before a0 Z = true) (w4 : (Jvm.Cond.code y bytes maxL none).before a0 Z = true) (hy : y.cls ≠ "java/lang/invoke/MethodHandle" ∧ y.cls ≠ "java/lang/invoke/VarHandle")
    {a : Addr} (hC : Con FrameEnd l Z y bytes maxL none rm (.ref a :: argsL).toArray h Qc) (eT : T.heap = h) (hf : rm.frames + 1 ≤ R.frames) (hl : W + (maxL + 11) + rm.locals ≤ R.locals) (hc : cells + rm.cells ≤ R.cells) (hs : slots + rm.slots ≤ R.slots)
    (hg : g.method = m) (hsize : g.locals.size = c.maxLocals) (hlen : ∀ sig, parseMethodDescriptor y.desc = some sig → argsL.length = sig.parameters.length) (hstack : g.stack = argsL.reverse ++ .ref a :: rest) (hW : 2 * g.monitorRoom + (rest.map fun v => v.category).sum ≤ W) (hdg : decode c.code g.pc = .ok (.invokespecial index, 3)) :
    ∃ (v : Option Value) (T' : State) (L : List Loc), Stand p l e R s m args below meth c T' (locs ++ L) (cells + rm.cells) (slots + rm.slots) ∧ Qc v T'.heap L ∧ ∀ target, Steps p.tables e below (T'.setTop { g with pc := g.pc + 3, stack := v.toList ++ rest }) target → Steps p.tables e below (T.setTop g) target := by
  obtain ⟨v, _, ⟨T2, L2, k2, n2⟩, -, X2, ⟨Lc2, hQ2, l2, y2, z2⟩, st2⟩ := X.specialBack hx hy1 hown (mvT hZ w1) (mvT hZ w2) (mvT hZ w4) hy (backOf (W := W) hC hZ w4 w3 hf hl) hg hsize (Steps.refl _) hlen hstack hW hdg (fun _ _ => ⟨rfl, eT, hc, hs⟩)
  dsimp only [Pt.U, Pt.locs, Pt.cells, Pt.slots] at X2 l2 y2 z2 st2 hQ2
  subst l2 y2 z2
  exact ⟨v, T2, Lc2, X2, hQ2, fun _ k => st2.trans k⟩
theorem callVt {C : String} (X : Stand p l e R s m args below meth c T locs cells slots) (hx : p.tables.exec = Jvm.exec) (hZ : Z.Warmed39 s.vm) (hown : s.vm.findClass own = some m.cls)
    (w1 : (Jvm.Cond.methodLink own index y).before a0 Z = true) (w2 : (Jvm.Cond.declares y).before a0 Z = true) (w3 : (Jvm.Cond.selects C y y).before a0 Z = true) (w4 : (Jvm.Cond.instanceMethod y).before a0 Z = true) (w5 : (Jvm.Cond.initialized y.cls).before a0 Z = true) (w6 : (Jvm.Cond.code y bytes maxL ret).before a0 Z = true)
    (hy : y.cls ≠ "java/lang/invoke/MethodHandle" ∧ y.cls ≠ "java/lang/invoke/VarHandle")
    {a : Addr} (hC : Con FrameEnd l Z y bytes maxL ret rm (.ref a :: argsL).toArray h Qc) (eT : T.heap = h) (EA : Exa Z h a C) (hf : rm.frames + 1 ≤ R.frames) (hl : W + (maxL + 11) + rm.locals ≤ R.locals) (hc : cells + rm.cells ≤ R.cells) (hs : slots + rm.slots ≤ R.slots)
    (hg : g.method = m) (hsize : g.locals.size = c.maxLocals) (hlen : ∀ sig, parseMethodDescriptor y.desc = some sig → argsL.length = sig.parameters.length) (hstack : g.stack = argsL.reverse ++ .ref a :: rest) (hW : 2 * g.monitorRoom + (rest.map fun v => v.category).sum ≤ W) (hdg : decode c.code g.pc = .ok (.invokevirtual index, 3)) :
    ∃ (v : Option Value) (T' : State) (L : List Loc), Stand p l e R s m args below meth c T' (locs ++ L) (cells + rm.cells) (slots + rm.slots) ∧ Qc v T'.heap L ∧ ∀ target, Steps p.tables e below (T'.setTop { g with pc := g.pc + 3, stack := v.toList ++ rest }) target → Steps p.tables e below (T.setTop g) target := by
  obtain ⟨cq, kq, qa, qb, qc⟩ := isOf hZ eT EA
  obtain ⟨v, _, ⟨T2, L2, k2, n2⟩, -, X2, ⟨Lc2, hQ2, l2, y2, z2⟩, st2⟩ := X.virtualBack hx hown (mvT hZ w1) (mvT hZ w2) (notFace_of_selects (args := #[]) (mvT hZ w3)) (mvT hZ w3) (mvT hZ w4) hy (backOf (W := W) hC hZ w6 w5 hf hl) qa qc hg hsize (Steps.refl _) hlen hstack hW hdg (fun _ _ => ⟨rfl, eT, hc, hs⟩)
  dsimp only [Pt.U, Pt.locs, Pt.cells, Pt.slots] at X2 l2 y2 z2 st2 hQ2
  subst l2 y2 z2
  exact ⟨v, T2, Lc2, X2, hQ2, fun _ k => st2.trans k⟩
theorem callVUt {C owner : String} (X : Stand p l e R s m args below meth c T locs cells slots) (hx : p.tables.exec = Jvm.exec) (hZ : Z.Warmed39 s.vm) (hown : s.vm.findClass own = some m.cls)
    (w1 : (Jvm.Cond.methodLink own index y).before a0 Z = true) (w1' : (Jvm.Cond.sameMethod y.cls owner y.name y.desc).before a0 Z = true) (w2 : (Jvm.Cond.declares ⟨owner, y.name, y.desc⟩).before a0 Z = true) (w3 : (Jvm.Cond.selects C y z).before a0 Z = true) (w4 : (Jvm.Cond.instanceMethod z).before a0 Z = true) (w5 : (Jvm.Cond.initialized z.cls).before a0 Z = true) (w6 : (Jvm.Cond.code z bytes maxL ret).before a0 Z = true)
    (hy : owner ≠ "java/lang/invoke/MethodHandle" ∧ owner ≠ "java/lang/invoke/VarHandle")
    {a : Addr} (hC : Con FrameEnd l Z z bytes maxL ret rm (.ref a :: argsL).toArray h Qc) (eT : T.heap = h) (EA : Exa Z h a C) (hf : rm.frames + 1 ≤ R.frames) (hl : W + (maxL + 11) + rm.locals ≤ R.locals) (hc : cells + rm.cells ≤ R.cells) (hs : slots + rm.slots ≤ R.slots)
    (hg : g.method = m) (hsize : g.locals.size = c.maxLocals) (hlen : ∀ sig, parseMethodDescriptor y.desc = some sig → argsL.length = sig.parameters.length) (hstack : g.stack = argsL.reverse ++ .ref a :: rest) (hW : 2 * g.monitorRoom + (rest.map fun v => v.category).sum ≤ W) (hdg : decode c.code g.pc = .ok (.invokevirtual index, 3)) :
    ∃ (v : Option Value) (T' : State) (L : List Loc), Stand p l e R s m args below meth c T' (locs ++ L) (cells + rm.cells) (slots + rm.slots) ∧ Qc v T'.heap L ∧ ∀ target, Steps p.tables e below (T'.setTop { g with pc := g.pc + 3, stack := v.toList ++ rest }) target → Steps p.tables e below (T.setTop g) target := by
  obtain ⟨cq, kq, qa, qb, qc⟩ := isOf hZ eT EA
  obtain ⟨v, _, ⟨T2, L2, k2, n2⟩, -, X2, ⟨Lc2, hQ2, l2, y2, z2⟩, st2⟩ := X.virtualBackUp hx hown (mvT hZ w1) (mvT hZ w1') (mvT hZ w2) hy (mvT hZ w3) (mvT hZ w4) (backOf (W := W) hC hZ w6 w5 hf hl) qa qc hg hsize (Steps.refl _) hlen hstack hW hdg (fun _ _ => ⟨rfl, eT, hc, hs⟩)
  dsimp only [Pt.U, Pt.locs, Pt.cells, Pt.slots] at X2 l2 y2 z2 st2 hQ2
  subst l2 y2 z2
  exact ⟨v, T2, Lc2, X2, hQ2, fun _ k => st2.trans k⟩
end Calls
end OwnKit
section OwnWide
variable {p : Program} {l : Launch} {e : Env} {R : Room} {s s' : State} {m : MethodId} {args : Array Value} {below : List Frame} {meth : Method} {c : Code} {T T' : State} {locs : List Loc} {cells slots : Nat} {g g' : JFrame} {Z : State} {a0 : Array Value} {h : Heap} {Q : Option Value → Heap → List Loc → Prop} {k n : Nat} {vm0 : Vm} {k0 : Nat} {EL : List (String × Nat)}
/-- the wide frame, with the invariant on the String constants -/
def EH (Z : State) (EL : List (String × Nat)) : State → Outcome → State → List Loc → Nat → Nat → Prop := fun s o t L k n => CHr Z EL s.vm s.heap t.vm t.heap ∧ ReturnedEndW s o t L k n
abbrev ConHW (l : Launch) (Z : State) (EL : List (String × Nat)) (ws : List Jvm.Cond) (y : MethodName) (bytes : ByteArray) (maxL : Nat) (ret : Option FieldType) (rm : Room) (as' : Array Value) (h : Heap) (Q : Option Value → Heap → List Loc → Prop) : Prop :=
  MetFree l y (head1 (Jvm.Cond.code y bytes maxL ret :: ws) rm) (fun a U => a = as' ∧ Z.Warmed39 U.vm ∧ U.heap = h ∧ CHv Z EL U.vm h) (fun _ _ _ _ _ => True) (fun _ U o U' => ∃ v L, o = .returned v ∧ Q v U'.heap L ∧ CHr Z EL U.vm U.heap U'.vm U'.heap ∧ ReturnedEndW U o U' L rm.cells rm.slots)
abbrev ConH (l : Launch) (Z : State) (EL : List (String × Nat)) (y : MethodName) (bytes : ByteArray) (maxL : Nat) (ret : Option FieldType) (rm : Room) (as' : Array Value) (h : Heap) (Q : Option Value → Heap → List Loc → Prop) : Prop := ConHW l Z EL [] y bytes maxL ret rm as' h Q
theorem conOfH {ws : List Jvm.Cond} {y : MethodName} {bytes : ByteArray} {maxL : Nat} {ret : Option FieldType} {rm : Room} {as' : Array Value} (hpn : plainFor y = true)
    (body : ∀ (p : Program) (e : Env) (s : State) (m : MethodId) (below : List Frame) (meth : Method) (c : Code) (s₁ : State), Stand p l e rm (s.setVm s.vm) m as' below meth c s₁ [] 0 0 → p.tables.exec = Jvm.exec → c.code = bytes → c.maxLocals = maxL → (s.setVm s.vm).vm.findClass y.cls = some m.cls → meth.name = y.name →
      meth.sig.returnType = ret → meth.locks = false → Z.Warmed39 (s.setVm s.vm).vm → s₁.heap = h → s.Since s.vm 0 → CHr Z EL s.vm s.heap s.vm h → Fin (EH Z EL) p e below s Q rm.cells rm.slots s₁ (entryFrame m as' maxL)) : ConHW l Z EL ws y bytes maxL ret rm as' h Q := by
  refine MetFree.of_bodySF hpn hisR ?_
  intro p e s m args below meth c s₁ Bd hml hP hK
  obtain ⟨rfl, hZ, rfl, hC⟩ := hP
  exact body p e s m below meth c s₁ (Stand.of_body Bd) Bd.exec Bd.bytes hml (findClass_of_methodNamed Bd.named) (name_of_methodNamed Bd.named Bd.method).1 Bd.returns (BodyLoose.notSynchronized Bd) hZ (by rw [Bd.state]; rfl) ((State.WarmedH.refl s).since 0) (CHr.refl hC)
theorem Fin.leaveH (X : Stand p l e R (s.setVm vm0) m args below meth c T locs cells slots) (hS : s.Since vm0 k0) (hk0 : k0 ≤ h.size) (hZ : Z.Warmed39 (s.setVm vm0).vm) (hEL : EW Z a0 EL) (eT : T.heap = h) (RR : CHr Z EL s.vm s.heap vm0 h) (hlk : meth.locks = false) {v : Option Value} (hv : meth.sig.returnType = none → v = none) (hk : cells ≤ k) (hn : slots ≤ n) (hq : Q v h locs)
    (st : ∀ fs, (∀ (f : JFrame) (acts : List Action), f.method = m → f.locked = none → f.entered = [] → (doReturn e (T.setTop f) acts v).1 = T.setFrames fs) → Steps p.tables e below (T.setTop g) (T.setFrames fs)) : Fin (EH Z EL) p e below s Q k n T g := by
  subst eT
  obtain ⟨fs, hr, hrun, hended, h1, h2, h3, h4⟩ := X.leaveW hS hk0 hv hlk
  exact ⟨_, _, st fs hr, hrun, hended, v, locs, rfl, hq, RR.trans (CHv.at X hZ hEL RR.1 : CHr Z EL vm0 T.heap T.vm T.heap), h1, h2, h3, h4.mono hk hn⟩
section CallsH
variable {own : String} {index : Nat} {y z : MethodName} {bytes : ByteArray} {maxL : Nat} {ret : Option FieldType} {rm : Room} {W : Nat} {Qc : Option Value → Heap → List Loc → Prop} {argsL rest : List Value}
theorem callStH (X : Stand p l e R (s.setVm vm0) m args below meth c T locs cells slots) (hx : p.tables.exec = Jvm.exec) (hZ : Z.Warmed39 (s.setVm vm0).vm) (hown : (s.setVm vm0).vm.findClass own = some m.cls)
    (w1 : (Jvm.Cond.methodLink own index y).before a0 Z = true) (w2 : (Jvm.Cond.static y).before a0 Z = true) (w3 : (Jvm.Cond.initialized y.cls).before a0 Z = true) (w4 : (Jvm.Cond.code y bytes maxL ret).before a0 Z = true) (hy : y.cls ≠ "java/lang/invoke/MethodHandle" ∧ y.cls ≠ "java/lang/invoke/VarHandle")
    (hC : ConH l Z EL y bytes maxL ret rm argsL.toArray h Qc) (eT : T.heap = h) (hS : s.Since vm0 k0) (hk : k0 ≤ h.size) (hEL : EW Z a0 EL) (H : CHv Z EL vm0 h) (hf : rm.frames + 1 ≤ R.frames) (hl : W + (maxL + 11) + rm.locals ≤ R.locals) (hc : cells + rm.cells ≤ R.cells) (hs : slots + rm.slots ≤ R.slots)
    (hg : g.method = m) (hsize : g.locals.size = c.maxLocals) (hlen : ∀ sig, parseMethodDescriptor y.desc = some sig → argsL.length = sig.parameters.length) (hstack : g.stack = argsL.reverse ++ rest) (hW : 2 * g.monitorRoom + (rest.map fun v => v.category).sum ≤ W) (hdg : decode c.code g.pc = .ok (.invokestatic index, 3)) :
    ∃ (v : Option Value) (T' : State) (L : List Loc), Stand p l e R (s.setVm T'.vm) m args below meth c T' (locs ++ L) (cells + rm.cells) (slots + rm.slots) ∧ s.Since T'.vm T'.heap.size ∧ Z.Warmed39 (s.setVm T'.vm).vm ∧ (s.setVm T'.vm).vm.findClass own = some m.cls ∧ CHr Z EL vm0 h T'.vm T'.heap ∧ Qc v T'.heap L ∧
      ∀ target, Steps p.tables e below (T'.setTop { g with pc := g.pc + 3, stack := v.toList ++ rest }) target → Steps p.tables e below (T.setTop g) target := by
  obtain ⟨v, _, ⟨T2, L2, k2, n2⟩, -, X2, hS2, hg2, ⟨Lc2, hQ2, l2, y2, z2, hC2⟩, st2⟩ := callSS X hx hown (mvT hZ w1) (mvT hZ w2) (mvT hZ w3) (mvT hZ w4) hy (backOfSH (W := W) hC hZ w4 w3 hf hl hEL H) hg hsize hlen hstack hW hdg (fun _ _ => ⟨rfl, eT, hc, hs⟩)
  dsimp only [Pt.U, Pt.locs, Pt.cells, Pt.slots] at X2 hS2 hg2 l2 y2 z2 st2 hQ2 hC2
  subst l2 y2 z2 eT
  obtain ⟨X3, hS3, hZ3, hown3⟩ := rebS hS hk X2 hS2 hg2 hZ hown
  exact ⟨v, T2, Lc2, X3, hS3, hZ3, hown3, hC2, hQ2, fun _ k => st2.trans k⟩
theorem callCtH (X : Stand p l e R (s.setVm vm0) m args below meth c T locs cells slots) (hx : p.tables.exec = Jvm.exec) (hZ : Z.Warmed39 (s.setVm vm0).vm) (hy1 : y.name = "<init>") (hown : (s.setVm vm0).vm.findClass own = some m.cls)
    (w1 : (Jvm.Cond.methodLink own index y).before a0 Z = true) (w2 : (Jvm.Cond.instanceMethod y).before a0 Z = true) (w3 : (Jvm.Cond.initialized y.cls).before a0 Z = true) (w4 : (Jvm.Cond.code y bytes maxL none).before a0 Z = true) (hy : y.cls ≠ "java/lang/invoke/MethodHandle" ∧ y.cls ≠ "java/lang/invoke/VarHandle")
    {a : Addr} (hC : ConH l Z EL y bytes maxL none rm (.ref a :: argsL).toArray h Qc) (eT : T.heap = h) (hS : s.Since vm0 k0) (hk : k0 ≤ h.size) (hEL : EW Z a0 EL) (H : CHv Z EL vm0 h) (hf : rm.frames + 1 ≤ R.frames) (hl : W + (maxL + 11) + rm.locals ≤ R.locals) (hc : cells + rm.cells ≤ R.cells) (hs : slots + rm.slots ≤ R.slots)
    (hg : g.method = m) (hsize : g.locals.size = c.maxLocals) (hlen : ∀ sig, parseMethodDescriptor y.desc = some sig → argsL.length = sig.parameters.length) (hstack : g.stack = argsL.reverse ++ .ref a :: rest) (hW : 2 * g.monitorRoom + (rest.map fun v => v.category).sum ≤ W) (hdg : decode c.code g.pc = .ok (.invokespecial index, 3)) :
    ∃ (v : Option Value) (T' : State) (L : List Loc), Stand p l e R (s.setVm T'.vm) m args below meth c T' (locs ++ L) (cells + rm.cells) (slots + rm.slots) ∧ s.Since T'.vm T'.heap.size ∧ Z.Warmed39 (s.setVm T'.vm).vm ∧ (s.setVm T'.vm).vm.findClass own = some m.cls ∧ CHr Z EL vm0 h T'.vm T'.heap ∧ Qc v T'.heap L ∧
      ∀ target, Steps p.tables e below (T'.setTop { g with pc := g.pc + 3, stack := v.toList ++ rest }) target → Steps p.tables e below (T.setTop g) target := by
  obtain ⟨v, _, ⟨T2, L2, k2, n2⟩, -, X2, hS2, hg2, ⟨Lc2, hQ2, l2, y2, z2, hC2⟩, st2⟩ := X.specialBackS hx hy1 hown (mvT hZ w1) (mvT hZ w2) (mvT hZ w4) hy (backOfSH (W := W) hC hZ w4 w3 hf hl hEL H) hg hsize (Steps.refl _) hlen hstack hW hdg (fun _ _ => ⟨rfl, eT, hc, hs⟩)
  dsimp only [Pt.U, Pt.locs, Pt.cells, Pt.slots] at X2 hS2 hg2 l2 y2 z2 st2 hQ2 hC2
  subst l2 y2 z2 eT
  obtain ⟨X3, hS3, hZ3, hown3⟩ := rebS hS hk X2 hS2 hg2 hZ hown
  exact ⟨v, T2, Lc2, X3, hS3, hZ3, hown3, hC2, hQ2, fun _ k => st2.trans k⟩
theorem callVtH {C : String} (X : Stand p l e R (s.setVm vm0) m args below meth c T locs cells slots) (hx : p.tables.exec = Jvm.exec) (hZ : Z.Warmed39 (s.setVm vm0).vm) (hown : (s.setVm vm0).vm.findClass own = some m.cls)
    (w1 : (Jvm.Cond.methodLink own index y).before a0 Z = true) (w2 : (Jvm.Cond.declares y).before a0 Z = true) (w3 : (Jvm.Cond.selects C y y).before a0 Z = true) (w4 : (Jvm.Cond.instanceMethod y).before a0 Z = true) (w5 : (Jvm.Cond.initialized y.cls).before a0 Z = true) (w6 : (Jvm.Cond.code y bytes maxL ret).before a0 Z = true)
    (hy : y.cls ≠ "java/lang/invoke/MethodHandle" ∧ y.cls ≠ "java/lang/invoke/VarHandle")
    {a : Addr} (hC : ConH l Z EL y bytes maxL ret rm (.ref a :: argsL).toArray h Qc) (eT : T.heap = h) (EA : Exa Z h a C) (hS : s.Since vm0 k0) (hk : k0 ≤ h.size) (hEL : EW Z a0 EL) (H : CHv Z EL vm0 h) (hf : rm.frames + 1 ≤ R.frames) (hl : W + (maxL + 11) + rm.locals ≤ R.locals) (hc : cells + rm.cells ≤ R.cells) (hs : slots + rm.slots ≤ R.slots)
    (hg : g.method = m) (hsize : g.locals.size = c.maxLocals) (hlen : ∀ sig, parseMethodDescriptor y.desc = some sig → argsL.length = sig.parameters.length) (hstack : g.stack = argsL.reverse ++ .ref a :: rest) (hW : 2 * g.monitorRoom + (rest.map fun v => v.category).sum ≤ W) (hdg : decode c.code g.pc = .ok (.invokevirtual index, 3)) :
    ∃ (v : Option Value) (T' : State) (L : List Loc), Stand p l e R (s.setVm T'.vm) m args below meth c T' (locs ++ L) (cells + rm.cells) (slots + rm.slots) ∧ s.Since T'.vm T'.heap.size ∧ Z.Warmed39 (s.setVm T'.vm).vm ∧ (s.setVm T'.vm).vm.findClass own = some m.cls ∧ CHr Z EL vm0 h T'.vm T'.heap ∧ Qc v T'.heap L ∧
      ∀ target, Steps p.tables e below (T'.setTop { g with pc := g.pc + 3, stack := v.toList ++ rest }) target → Steps p.tables e below (T.setTop g) target := by
  obtain ⟨cq, kq, qa, qb, qc⟩ := isOf hZ eT EA
  obtain ⟨v, _, ⟨T2, L2, k2, n2⟩, -, X2, hS2, hg2, ⟨Lc2, hQ2, l2, y2, z2, hC2⟩, st2⟩ := X.virtualBackS hx hown (mvT hZ w1) (mvT hZ w2) (notFace_of_selects (args := #[]) (mvT hZ w3)) (mvT hZ w3) (mvT hZ w4) hy (backOfSH (W := W) hC hZ w6 w5 hf hl hEL H) qa qc hg hsize (Steps.refl _) hlen hstack hW hdg (fun _ _ => ⟨rfl, eT, hc, hs⟩)
  dsimp only [Pt.U, Pt.locs, Pt.cells, Pt.slots] at X2 hS2 hg2 l2 y2 z2 st2 hQ2 hC2
  subst l2 y2 z2 eT
  obtain ⟨X3, hS3, hZ3, hown3⟩ := rebS hS hk X2 hS2 hg2 hZ hown
  exact ⟨v, T2, Lc2, X3, hS3, hZ3, hown3, hC2, hQ2, fun _ k => st2.trans k⟩
end CallsH
end OwnWide
theorem safe_of_null {Z : State} {EL : List (String × Nat)} {vm : Vm} {h : Heap} {a : Addr} (hal : Z.vm.Alike vm) (E : Exa Z h a "java/lang/String") (F : Fld Z h a "java/lang/String" "value" "[B" .null) : Safe Z EL vm h a := fun B => by
  obtain ⟨p, hp, u, a', hb, q, hq, G, hy⟩ := B
  have g1 := G.ha
  have g2 := G.hd
  obtain ⟨cS, ⟨⟨-, -, -, ⟨c1, k1, i1, f1, -⟩, -, -, -, v1, -⟩, -⟩, -, fB, -⟩ := G
  rcases hy with rfl | rfl
  · obtain ⟨cell, cf, k, i, f, e1, e2, -, -, -, -, e7⟩ := F
    cases g1.symm.trans e1
    obtain ⟨k3, e3, -⟩ := State.fieldFound?_setVm (s := Z) hal e2
    have e4 := (show (Wst Z vm h).fieldFound? _ _ _ = _ from e3).symm.trans f1
    simp only [Option.some.injEq, Prod.mk.injEq] at e4
    rw [← e4.2.2.2, e7] at v1
    simp at v1
  · obtain ⟨cell, k, e1, e2, -⟩ := E
    cases g2.symm.trans e1
    have fB' : Z.vm.findClass "[B" = some q.SA.cls := by rw [← hal.findClass]; exact fB
    obtain ⟨k1, q1, q2⟩ := Vm.findClass_spec fB'
    obtain ⟨k2, q3, q4⟩ := Vm.findClass_spec e2
    cases q1.symm.trans q3
    exact absurd (q2.symm.trans q4) (by decide)
theorem w_0 : (Jvm.Cond.methodLink "com/example/termspan/termspan/options/OptionFlagPinLaw" (12 : Nat) ({ cls := "com/example/termspan/termspan/options/OptionFlagPinLaw", name := "draw", desc := "(II)Ljava/lang/String;" } : Jvm.MethodName)) ∈ tables_1 := List.mem_of_getElem? (i := 0) rfl
theorem w_1 : (Jvm.Cond.static ({ cls := "com/example/termspan/termspan/options/OptionFlagPinLaw", name := "draw", desc := "(II)Ljava/lang/String;" } : Jvm.MethodName)) ∈ tables_1 := List.mem_of_getElem? (i := 1) rfl
theorem w_2 : (Jvm.Cond.initialized "com/example/termspan/termspan/options/OptionFlagPinLaw") ∈ tables_1 := List.mem_of_getElem? (i := 2) rfl
theorem w_3 : (Jvm.Cond.code ({ cls := "com/example/termspan/termspan/options/OptionFlagPinLaw", name := "draw", desc := "(II)Ljava/lang/String;" } : Jvm.MethodName) method_2_code (5 : Nat) (Option.some (Jvm.ClassFile.FieldType.object "java/lang/String"))) ∈ tables_1 := List.mem_of_getElem? (i := 3) rfl
theorem w_4 : (Jvm.Cond.arrayClass Jvm.ClassFile.FieldType.char) ∈ tables_1 := List.mem_of_getElem? (i := 4) rfl
theorem w_5 : (Jvm.Cond.classLink "com/example/termspan/termspan/options/OptionFlagPinLaw" (7 : Nat) "java/lang/String") ∈ tables_1 := List.mem_of_getElem? (i := 5) rfl
theorem w_6 : (Jvm.Cond.instantiable "java/lang/String" (4 : Nat)) ∈ tables_1 := List.mem_of_getElem? (i := 6) rfl
theorem w_7 : (Jvm.Cond.initialized "java/lang/String") ∈ tables_1 := List.mem_of_getElem? (i := 7) rfl
theorem w_8 : (Jvm.Cond.methodLink "com/example/termspan/termspan/options/OptionFlagPinLaw" (9 : Nat) ({ cls := "java/lang/String", name := "<init>", desc := "([C)V" } : Jvm.MethodName)) ∈ tables_1 := List.mem_of_getElem? (i := 8) rfl
theorem w_9 : (Jvm.Cond.instanceMethod ({ cls := "java/lang/String", name := "<init>", desc := "([C)V" } : Jvm.MethodName)) ∈ tables_1 := List.mem_of_getElem? (i := 9) rfl
theorem w_10 : (Jvm.Cond.code ({ cls := "java/lang/String", name := "<init>", desc := "([C)V" } : Jvm.MethodName) jdk_42_method_3_code (2 : Nat) (Option.none : Option Jvm.ClassFile.FieldType)) ∈ tables_1 := List.mem_of_getElem? (i := 10) rfl
theorem w_11 : (Jvm.Cond.methodLink "java/lang/String" (27 : Nat) ({ cls := "java/lang/String", name := "<init>", desc := "([CIILjava/lang/Void;)V" } : Jvm.MethodName)) ∈ tables_1 := List.mem_of_getElem? (i := 11) rfl
theorem w_12 : (Jvm.Cond.instanceMethod ({ cls := "java/lang/String", name := "<init>", desc := "([CIILjava/lang/Void;)V" } : Jvm.MethodName)) ∈ tables_1 := List.mem_of_getElem? (i := 12) rfl
theorem w_14 : (Jvm.Cond.code ({ cls := "java/lang/String", name := "<init>", desc := "([CIILjava/lang/Void;)V" } : Jvm.MethodName) jdk_42_method_149_code (6 : Nat) (Option.none : Option Jvm.ClassFile.FieldType)) ∈ tables_1 := List.mem_of_getElem? (i := 14) rfl
theorem w_15 : (Jvm.Cond.methodLink "java/lang/String" (1 : Nat) ({ cls := "java/lang/Object", name := "<init>", desc := "()V" } : Jvm.MethodName)) ∈ tables_1 := List.mem_of_getElem? (i := 15) rfl
theorem w_16 : (Jvm.Cond.instanceMethod ({ cls := "java/lang/Object", name := "<init>", desc := "()V" } : Jvm.MethodName)) ∈ tables_1 := List.mem_of_getElem? (i := 16) rfl
theorem w_17 : (Jvm.Cond.code ({ cls := "java/lang/Object", name := "<init>", desc := "()V" } : Jvm.MethodName) object_method_1_code (1 : Nat) (Option.none : Option Jvm.ClassFile.FieldType)) ∈ tables_1 := List.mem_of_getElem? (i := 17) rfl
theorem w_18 : (Jvm.Cond.fieldLink "java/lang/String" (38 : Nat) "java/lang/String" "COMPACT_STRINGS" "Z") ∈ tables_1 := List.mem_of_getElem? (i := 18) rfl
theorem w_19 : (Jvm.Cond.methodLink "java/lang/String" (177 : Nat) ({ cls := "java/lang/StringUTF16", name := "compress", desc := "([CII)[B" } : Jvm.MethodName)) ∈ tables_1 := List.mem_of_getElem? (i := 19) rfl
theorem w_20 : (Jvm.Cond.static ({ cls := "java/lang/StringUTF16", name := "compress", desc := "([CII)[B" } : Jvm.MethodName)) ∈ tables_1 := List.mem_of_getElem? (i := 20) rfl
theorem w_21 : (Jvm.Cond.initialized "java/lang/StringUTF16") ∈ tables_1 := List.mem_of_getElem? (i := 21) rfl
theorem w_22 : (Jvm.Cond.code ({ cls := "java/lang/StringUTF16", name := "compress", desc := "([CII)[B" } : Jvm.MethodName) jdk_52_method_16_code (6 : Nat) (Option.some (Jvm.ClassFile.FieldType.array Jvm.ClassFile.FieldType.byte))) ∈ tables_1 := List.mem_of_getElem? (i := 22) rfl
theorem w_23 : (Jvm.Cond.arrayClass Jvm.ClassFile.FieldType.byte) ∈ tables_1 := List.mem_of_getElem? (i := 23) rfl
theorem w_24 : (Jvm.Cond.methodLink "java/lang/StringUTF16" (115 : Nat) ({ cls := "java/lang/StringUTF16", name := "compress", desc := "([CI[BII)I" } : Jvm.MethodName)) ∈ tables_1 := List.mem_of_getElem? (i := 24) rfl
theorem w_25 : (Jvm.Cond.static ({ cls := "java/lang/StringUTF16", name := "compress", desc := "([CI[BII)I" } : Jvm.MethodName)) ∈ tables_1 := List.mem_of_getElem? (i := 25) rfl
theorem w_26 : (Jvm.Cond.code ({ cls := "java/lang/StringUTF16", name := "compress", desc := "([CI[BII)I" } : Jvm.MethodName) jdk_52_method_21_code (7 : Nat) (Option.some Jvm.ClassFile.FieldType.int)) ∈ tables_1 := List.mem_of_getElem? (i := 26) rfl
theorem w_27 : (Jvm.Cond.methodLink "java/lang/String" (47 : Nat) ({ cls := "java/lang/StringUTF16", name := "coderFromArrayLen", desc := "([BI)B" } : Jvm.MethodName)) ∈ tables_1 := List.mem_of_getElem? (i := 27) rfl
theorem w_28 : (Jvm.Cond.static ({ cls := "java/lang/StringUTF16", name := "coderFromArrayLen", desc := "([BI)B" } : Jvm.MethodName)) ∈ tables_1 := List.mem_of_getElem? (i := 28) rfl
theorem w_29 : (Jvm.Cond.code ({ cls := "java/lang/StringUTF16", name := "coderFromArrayLen", desc := "([BI)B" } : Jvm.MethodName) jdk_52_method_15_code (2 : Nat) (Option.some Jvm.ClassFile.FieldType.byte)) ∈ tables_1 := List.mem_of_getElem? (i := 29) rfl
theorem w_30 : (Jvm.Cond.fieldLink "java/lang/String" (15 : Nat) "java/lang/String" "coder" "B") ∈ tables_1 := List.mem_of_getElem? (i := 30) rfl
theorem w_31 : (Jvm.Cond.laysFinal "java/lang/String" "java/lang/String" "coder" "B") ∈ tables_1 := List.mem_of_getElem? (i := 31) rfl
theorem w_32 : (Jvm.Cond.fieldLink "java/lang/String" (9 : Nat) "java/lang/String" "value" "[B") ∈ tables_1 := List.mem_of_getElem? (i := 32) rfl
theorem w_33 : (Jvm.Cond.laysFinal "java/lang/String" "java/lang/String" "value" "[B") ∈ tables_1 := List.mem_of_getElem? (i := 33) rfl
theorem w_34 : (Jvm.Cond.stringLink "java/lang/String" (7 : Nat) "") ∈ tables_1 := List.mem_of_getElem? (i := 34) rfl
theorem w_37 : (Jvm.Cond.methodLink "com/example/termspan/termspan/options/OptionFlagPinLaw" (18 : Nat) ({ cls := "com/example/termspan/termspan/options/Option", name := "flag", desc := "(Ljava/lang/String;Ljava/lang/String;)Lcom/example/termspan/termspan/options/Option;" } : Jvm.MethodName)) ∈ tables_1 := List.mem_of_getElem? (i := 37) rfl
theorem w_38 : (Jvm.Cond.static ({ cls := "com/example/termspan/termspan/options/Option", name := "flag", desc := "(Ljava/lang/String;Ljava/lang/String;)Lcom/example/termspan/termspan/options/Option;" } : Jvm.MethodName)) ∈ tables_1 := List.mem_of_getElem? (i := 38) rfl
theorem w_39 : (Jvm.Cond.initialized "com/example/termspan/termspan/options/Option") ∈ tables_1 := List.mem_of_getElem? (i := 39) rfl
theorem w_40 : (Jvm.Cond.code ({ cls := "com/example/termspan/termspan/options/Option", name := "flag", desc := "(Ljava/lang/String;Ljava/lang/String;)Lcom/example/termspan/termspan/options/Option;" } : Jvm.MethodName) prog_31_method_6_code (2 : Nat) (Option.some (Jvm.ClassFile.FieldType.object "com/example/termspan/termspan/options/Option"))) ∈ tables_1 := List.mem_of_getElem? (i := 40) rfl
theorem w_41 : (Jvm.Cond.classLink "com/example/termspan/termspan/options/Option" (8 : Nat) "com/example/termspan/termspan/options/Option") ∈ tables_1 := List.mem_of_getElem? (i := 41) rfl
theorem w_42 : (Jvm.Cond.instantiable "com/example/termspan/termspan/options/Option" (7 : Nat)) ∈ tables_1 := List.mem_of_getElem? (i := 42) rfl
theorem w_43 : (Jvm.Cond.methodLink "com/example/termspan/termspan/options/Option" (33 : Nat) ({ cls := "com/example/termspan/termspan/options/Option", name := "<init>", desc := "(Ljava/lang/String;Ljava/lang/String;Ljava/lang/String;ZZLjava/lang/String;Lcom/example/termspan/termspan/options/Option$Range;)V" } : Jvm.MethodName)) ∈ tables_1 := List.mem_of_getElem? (i := 43) rfl
theorem w_44 : (Jvm.Cond.instanceMethod ({ cls := "com/example/termspan/termspan/options/Option", name := "<init>", desc := "(Ljava/lang/String;Ljava/lang/String;Ljava/lang/String;ZZLjava/lang/String;Lcom/example/termspan/termspan/options/Option$Range;)V" } : Jvm.MethodName)) ∈ tables_1 := List.mem_of_getElem? (i := 44) rfl
theorem w_45 : (Jvm.Cond.code ({ cls := "com/example/termspan/termspan/options/Option", name := "<init>", desc := "(Ljava/lang/String;Ljava/lang/String;Ljava/lang/String;ZZLjava/lang/String;Lcom/example/termspan/termspan/options/Option$Range;)V" } : Jvm.MethodName) prog_31_method_1_code (8 : Nat) (Option.none : Option Jvm.ClassFile.FieldType)) ∈ tables_1 := List.mem_of_getElem? (i := 45) rfl
theorem w_46 : (Jvm.Cond.methodLink "com/example/termspan/termspan/options/Option" (1 : Nat) ({ cls := "java/lang/Record", name := "<init>", desc := "()V" } : Jvm.MethodName)) ∈ tables_1 := List.mem_of_getElem? (i := 46) rfl
theorem w_47 : (Jvm.Cond.instanceMethod ({ cls := "java/lang/Record", name := "<init>", desc := "()V" } : Jvm.MethodName)) ∈ tables_1 := List.mem_of_getElem? (i := 47) rfl
theorem w_49 : (Jvm.Cond.initialized "java/lang/Record") ∈ tables_1 := List.mem_of_getElem? (i := 49) rfl
theorem w_50 : (Jvm.Cond.code ({ cls := "java/lang/Record", name := "<init>", desc := "()V" } : Jvm.MethodName) jdk_30_method_1_code (1 : Nat) (Option.none : Option Jvm.ClassFile.FieldType)) ∈ tables_1 := List.mem_of_getElem? (i := 50) rfl
theorem w_51 : (Jvm.Cond.methodLink "java/lang/Record" (1 : Nat) ({ cls := "java/lang/Object", name := "<init>", desc := "()V" } : Jvm.MethodName)) ∈ tables_1 := List.mem_of_getElem? (i := 51) rfl
theorem w_52 : (Jvm.Cond.fieldLink "com/example/termspan/termspan/options/Option" (7 : Nat) "com/example/termspan/termspan/options/Option" "name" "Ljava/lang/String;") ∈ tables_1 := List.mem_of_getElem? (i := 52) rfl
theorem w_53 : (Jvm.Cond.laysFinal "com/example/termspan/termspan/options/Option" "com/example/termspan/termspan/options/Option" "name" "Ljava/lang/String;") ∈ tables_1 := List.mem_of_getElem? (i := 53) rfl
theorem w_54 : (Jvm.Cond.fieldLink "com/example/termspan/termspan/options/Option" (13 : Nat) "com/example/termspan/termspan/options/Option" "value" "Ljava/lang/String;") ∈ tables_1 := List.mem_of_getElem? (i := 54) rfl
theorem w_55 : (Jvm.Cond.laysFinal "com/example/termspan/termspan/options/Option" "com/example/termspan/termspan/options/Option" "value" "Ljava/lang/String;") ∈ tables_1 := List.mem_of_getElem? (i := 55) rfl
theorem w_56 : (Jvm.Cond.fieldLink "com/example/termspan/termspan/options/Option" (16 : Nat) "com/example/termspan/termspan/options/Option" "fallback" "Ljava/lang/String;") ∈ tables_1 := List.mem_of_getElem? (i := 56) rfl
theorem w_57 : (Jvm.Cond.laysFinal "com/example/termspan/termspan/options/Option" "com/example/termspan/termspan/options/Option" "fallback" "Ljava/lang/String;") ∈ tables_1 := List.mem_of_getElem? (i := 57) rfl
theorem w_58 : (Jvm.Cond.fieldLink "com/example/termspan/termspan/options/Option" (19 : Nat) "com/example/termspan/termspan/options/Option" "required" "Z") ∈ tables_1 := List.mem_of_getElem? (i := 58) rfl
theorem w_59 : (Jvm.Cond.laysFinal "com/example/termspan/termspan/options/Option" "com/example/termspan/termspan/options/Option" "required" "Z") ∈ tables_1 := List.mem_of_getElem? (i := 59) rfl
theorem w_60 : (Jvm.Cond.fieldLink "com/example/termspan/termspan/options/Option" (23 : Nat) "com/example/termspan/termspan/options/Option" "repeatable" "Z") ∈ tables_1 := List.mem_of_getElem? (i := 60) rfl
theorem w_61 : (Jvm.Cond.laysFinal "com/example/termspan/termspan/options/Option" "com/example/termspan/termspan/options/Option" "repeatable" "Z") ∈ tables_1 := List.mem_of_getElem? (i := 61) rfl
theorem w_62 : (Jvm.Cond.fieldLink "com/example/termspan/termspan/options/Option" (26 : Nat) "com/example/termspan/termspan/options/Option" "description" "Ljava/lang/String;") ∈ tables_1 := List.mem_of_getElem? (i := 62) rfl
theorem w_63 : (Jvm.Cond.laysFinal "com/example/termspan/termspan/options/Option" "com/example/termspan/termspan/options/Option" "description" "Ljava/lang/String;") ∈ tables_1 := List.mem_of_getElem? (i := 63) rfl
theorem w_64 : (Jvm.Cond.fieldLink "com/example/termspan/termspan/options/Option" (29 : Nat) "com/example/termspan/termspan/options/Option" "range" "Lcom/example/termspan/termspan/options/Option$Range;") ∈ tables_1 := List.mem_of_getElem? (i := 64) rfl
theorem w_65 : (Jvm.Cond.laysFinal "com/example/termspan/termspan/options/Option" "com/example/termspan/termspan/options/Option" "range" "Lcom/example/termspan/termspan/options/Option$Range;") ∈ tables_1 := List.mem_of_getElem? (i := 65) rfl
theorem w_66 : (Jvm.Cond.methodLink "com/example/termspan/termspan/options/OptionFlagPinLaw" (24 : Nat) ({ cls := "com/example/termspan/termspan/options/Option", name := "name", desc := "()Ljava/lang/String;" } : Jvm.MethodName)) ∈ tables_1 := List.mem_of_getElem? (i := 66) rfl
theorem w_67 : (Jvm.Cond.declares ({ cls := "com/example/termspan/termspan/options/Option", name := "name", desc := "()Ljava/lang/String;" } : Jvm.MethodName)) ∈ tables_1 := List.mem_of_getElem? (i := 67) rfl
theorem w_68 : (Jvm.Cond.instanceMethod ({ cls := "com/example/termspan/termspan/options/Option", name := "name", desc := "()Ljava/lang/String;" } : Jvm.MethodName)) ∈ tables_1 := List.mem_of_getElem? (i := 68) rfl
theorem w_69 : (Jvm.Cond.selects "com/example/termspan/termspan/options/Option" ({ cls := "com/example/termspan/termspan/options/Option", name := "name", desc := "()Ljava/lang/String;" } : Jvm.MethodName) ({ cls := "com/example/termspan/termspan/options/Option", name := "name", desc := "()Ljava/lang/String;" } : Jvm.MethodName)) ∈ tables_1 := List.mem_of_getElem? (i := 69) rfl
theorem w_70 : (Jvm.Cond.code ({ cls := "com/example/termspan/termspan/options/Option", name := "name", desc := "()Ljava/lang/String;" } : Jvm.MethodName) prog_31_method_20_code (1 : Nat) (Option.some (Jvm.ClassFile.FieldType.object "java/lang/String"))) ∈ tables_1 := List.mem_of_getElem? (i := 70) rfl
theorem w_71 : (Jvm.Cond.methodLink "com/example/termspan/termspan/options/OptionFlagPinLaw" (28 : Nat) ({ cls := "java/lang/String", name := "equals", desc := "(Ljava/lang/Object;)Z" } : Jvm.MethodName)) ∈ tables_1 := List.mem_of_getElem? (i := 71) rfl
theorem w_72 : (Jvm.Cond.declares ({ cls := "java/lang/String", name := "equals", desc := "(Ljava/lang/Object;)Z" } : Jvm.MethodName)) ∈ tables_1 := List.mem_of_getElem? (i := 72) rfl
theorem w_73 : (Jvm.Cond.instanceMethod ({ cls := "java/lang/String", name := "equals", desc := "(Ljava/lang/Object;)Z" } : Jvm.MethodName)) ∈ tables_1 := List.mem_of_getElem? (i := 73) rfl
theorem w_74 : (Jvm.Cond.selects "java/lang/String" ({ cls := "java/lang/String", name := "equals", desc := "(Ljava/lang/Object;)Z" } : Jvm.MethodName) ({ cls := "java/lang/String", name := "equals", desc := "(Ljava/lang/Object;)Z" } : Jvm.MethodName)) ∈ tables_1 := List.mem_of_getElem? (i := 74) rfl
theorem w_75 : (Jvm.Cond.code ({ cls := "java/lang/String", name := "equals", desc := "(Ljava/lang/Object;)Z" } : Jvm.MethodName) jdk_42_method_66_code (3 : Nat) (Option.some Jvm.ClassFile.FieldType.boolean)) ∈ tables_1 := List.mem_of_getElem? (i := 75) rfl
theorem w_76 : (Jvm.Cond.methodLink "com/example/termspan/termspan/options/OptionFlagPinLaw" (32 : Nat) ({ cls := "com/example/termspan/termspan/options/Option", name := "description", desc := "()Ljava/lang/String;" } : Jvm.MethodName)) ∈ tables_1 := List.mem_of_getElem? (i := 76) rfl
theorem w_77 : (Jvm.Cond.declares ({ cls := "com/example/termspan/termspan/options/Option", name := "description", desc := "()Ljava/lang/String;" } : Jvm.MethodName)) ∈ tables_1 := List.mem_of_getElem? (i := 77) rfl
theorem w_78 : (Jvm.Cond.instanceMethod ({ cls := "com/example/termspan/termspan/options/Option", name := "description", desc := "()Ljava/lang/String;" } : Jvm.MethodName)) ∈ tables_1 := List.mem_of_getElem? (i := 78) rfl
theorem w_79 : (Jvm.Cond.selects "com/example/termspan/termspan/options/Option" ({ cls := "com/example/termspan/termspan/options/Option", name := "description", desc := "()Ljava/lang/String;" } : Jvm.MethodName) ({ cls := "com/example/termspan/termspan/options/Option", name := "description", desc := "()Ljava/lang/String;" } : Jvm.MethodName)) ∈ tables_1 := List.mem_of_getElem? (i := 79) rfl
theorem w_80 : (Jvm.Cond.code ({ cls := "com/example/termspan/termspan/options/Option", name := "description", desc := "()Ljava/lang/String;" } : Jvm.MethodName) prog_31_method_25_code (1 : Nat) (Option.some (Jvm.ClassFile.FieldType.object "java/lang/String"))) ∈ tables_1 := List.mem_of_getElem? (i := 80) rfl
theorem w_81 : (Jvm.Cond.methodLink "com/example/termspan/termspan/options/OptionFlagPinLaw" (35 : Nat) ({ cls := "com/example/termspan/termspan/options/Option", name := "value", desc := "()Ljava/lang/String;" } : Jvm.MethodName)) ∈ tables_1 := List.mem_of_getElem? (i := 81) rfl
theorem w_82 : (Jvm.Cond.declares ({ cls := "com/example/termspan/termspan/options/Option", name := "value", desc := "()Ljava/lang/String;" } : Jvm.MethodName)) ∈ tables_1 := List.mem_of_getElem? (i := 82) rfl
theorem w_83 : (Jvm.Cond.instanceMethod ({ cls := "com/example/termspan/termspan/options/Option", name := "value", desc := "()Ljava/lang/String;" } : Jvm.MethodName)) ∈ tables_1 := List.mem_of_getElem? (i := 83) rfl
theorem w_84 : (Jvm.Cond.selects "com/example/termspan/termspan/options/Option" ({ cls := "com/example/termspan/termspan/options/Option", name := "value", desc := "()Ljava/lang/String;" } : Jvm.MethodName) ({ cls := "com/example/termspan/termspan/options/Option", name := "value", desc := "()Ljava/lang/String;" } : Jvm.MethodName)) ∈ tables_1 := List.mem_of_getElem? (i := 84) rfl
theorem w_85 : (Jvm.Cond.code ({ cls := "com/example/termspan/termspan/options/Option", name := "value", desc := "()Ljava/lang/String;" } : Jvm.MethodName) prog_31_method_21_code (1 : Nat) (Option.some (Jvm.ClassFile.FieldType.object "java/lang/String"))) ∈ tables_1 := List.mem_of_getElem? (i := 85) rfl
theorem w_86 : (Jvm.Cond.methodLink "com/example/termspan/termspan/options/OptionFlagPinLaw" (38 : Nat) ({ cls := "com/example/termspan/termspan/options/Option", name := "fallback", desc := "()Ljava/lang/String;" } : Jvm.MethodName)) ∈ tables_1 := List.mem_of_getElem? (i := 86) rfl
theorem w_87 : (Jvm.Cond.declares ({ cls := "com/example/termspan/termspan/options/Option", name := "fallback", desc := "()Ljava/lang/String;" } : Jvm.MethodName)) ∈ tables_1 := List.mem_of_getElem? (i := 87) rfl
theorem w_88 : (Jvm.Cond.instanceMethod ({ cls := "com/example/termspan/termspan/options/Option", name := "fallback", desc := "()Ljava/lang/String;" } : Jvm.MethodName)) ∈ tables_1 := List.mem_of_getElem? (i := 88) rfl
theorem w_89 : (Jvm.Cond.selects "com/example/termspan/termspan/options/Option" ({ cls := "com/example/termspan/termspan/options/Option", name := "fallback", desc := "()Ljava/lang/String;" } : Jvm.MethodName) ({ cls := "com/example/termspan/termspan/options/Option", name := "fallback", desc := "()Ljava/lang/String;" } : Jvm.MethodName)) ∈ tables_1 := List.mem_of_getElem? (i := 89) rfl
theorem w_90 : (Jvm.Cond.code ({ cls := "com/example/termspan/termspan/options/Option", name := "fallback", desc := "()Ljava/lang/String;" } : Jvm.MethodName) prog_31_method_22_code (1 : Nat) (Option.some (Jvm.ClassFile.FieldType.object "java/lang/String"))) ∈ tables_1 := List.mem_of_getElem? (i := 90) rfl
theorem w_91 : (Jvm.Cond.methodLink "com/example/termspan/termspan/options/OptionFlagPinLaw" (41 : Nat) ({ cls := "com/example/termspan/termspan/options/Option", name := "required", desc := "()Z" } : Jvm.MethodName)) ∈ tables_1 := List.mem_of_getElem? (i := 91) rfl
theorem w_92 : (Jvm.Cond.declares ({ cls := "com/example/termspan/termspan/options/Option", name := "required", desc := "()Z" } : Jvm.MethodName)) ∈ tables_1 := List.mem_of_getElem? (i := 92) rfl
theorem w_93 : (Jvm.Cond.instanceMethod ({ cls := "com/example/termspan/termspan/options/Option", name := "required", desc := "()Z" } : Jvm.MethodName)) ∈ tables_1 := List.mem_of_getElem? (i := 93) rfl
theorem w_94 : (Jvm.Cond.selects "com/example/termspan/termspan/options/Option" ({ cls := "com/example/termspan/termspan/options/Option", name := "required", desc := "()Z" } : Jvm.MethodName) ({ cls := "com/example/termspan/termspan/options/Option", name := "required", desc := "()Z" } : Jvm.MethodName)) ∈ tables_1 := List.mem_of_getElem? (i := 94) rfl
theorem w_95 : (Jvm.Cond.code ({ cls := "com/example/termspan/termspan/options/Option", name := "required", desc := "()Z" } : Jvm.MethodName) prog_31_method_23_code (1 : Nat) (Option.some Jvm.ClassFile.FieldType.boolean)) ∈ tables_1 := List.mem_of_getElem? (i := 95) rfl
theorem w_96 : (Jvm.Cond.methodLink "com/example/termspan/termspan/options/OptionFlagPinLaw" (45 : Nat) ({ cls := "com/example/termspan/termspan/options/Option", name := "repeatable", desc := "()Z" } : Jvm.MethodName)) ∈ tables_1 := List.mem_of_getElem? (i := 96) rfl
theorem w_97 : (Jvm.Cond.declares ({ cls := "com/example/termspan/termspan/options/Option", name := "repeatable", desc := "()Z" } : Jvm.MethodName)) ∈ tables_1 := List.mem_of_getElem? (i := 97) rfl
theorem w_98 : (Jvm.Cond.instanceMethod ({ cls := "com/example/termspan/termspan/options/Option", name := "repeatable", desc := "()Z" } : Jvm.MethodName)) ∈ tables_1 := List.mem_of_getElem? (i := 98) rfl
theorem w_99 : (Jvm.Cond.selects "com/example/termspan/termspan/options/Option" ({ cls := "com/example/termspan/termspan/options/Option", name := "repeatable", desc := "()Z" } : Jvm.MethodName) ({ cls := "com/example/termspan/termspan/options/Option", name := "repeatable", desc := "()Z" } : Jvm.MethodName)) ∈ tables_1 := List.mem_of_getElem? (i := 99) rfl
theorem w_100 : (Jvm.Cond.code ({ cls := "com/example/termspan/termspan/options/Option", name := "repeatable", desc := "()Z" } : Jvm.MethodName) prog_31_method_24_code (1 : Nat) (Option.some Jvm.ClassFile.FieldType.boolean)) ∈ tables_1 := List.mem_of_getElem? (i := 100) rfl
theorem w_101 : (Jvm.Cond.methodLink "com/example/termspan/termspan/options/OptionFlagPinLaw" (48 : Nat) ({ cls := "com/example/termspan/termspan/options/Option", name := "range", desc := "()Lcom/example/termspan/termspan/options/Option$Range;" } : Jvm.MethodName)) ∈ tables_1 := List.mem_of_getElem? (i := 101) rfl
theorem w_102 : (Jvm.Cond.declares ({ cls := "com/example/termspan/termspan/options/Option", name := "range", desc := "()Lcom/example/termspan/termspan/options/Option$Range;" } : Jvm.MethodName)) ∈ tables_1 := List.mem_of_getElem? (i := 102) rfl
theorem w_103 : (Jvm.Cond.instanceMethod ({ cls := "com/example/termspan/termspan/options/Option", name := "range", desc := "()Lcom/example/termspan/termspan/options/Option$Range;" } : Jvm.MethodName)) ∈ tables_1 := List.mem_of_getElem? (i := 103) rfl
theorem w_104 : (Jvm.Cond.selects "com/example/termspan/termspan/options/Option" ({ cls := "com/example/termspan/termspan/options/Option", name := "range", desc := "()Lcom/example/termspan/termspan/options/Option$Range;" } : Jvm.MethodName) ({ cls := "com/example/termspan/termspan/options/Option", name := "range", desc := "()Lcom/example/termspan/termspan/options/Option$Range;" } : Jvm.MethodName)) ∈ tables_1 := List.mem_of_getElem? (i := 104) rfl
theorem w_105 : (Jvm.Cond.code ({ cls := "com/example/termspan/termspan/options/Option", name := "range", desc := "()Lcom/example/termspan/termspan/options/Option$Range;" } : Jvm.MethodName) prog_31_method_26_code (1 : Nat) (Option.some (Jvm.ClassFile.FieldType.object "com/example/termspan/termspan/options/Option$Range"))) ∈ tables_1 := List.mem_of_getElem? (i := 105) rfl
theorem w_106 : (Jvm.Cond.methodLink "com/example/termspan/termspan/options/OptionFlagPinLaw" (52 : Nat) ({ cls := "com/example/termspan/termspan/options/Option", name := "isFlag", desc := "()Z" } : Jvm.MethodName)) ∈ tables_1 := List.mem_of_getElem? (i := 106) rfl
theorem w_107 : (Jvm.Cond.declares ({ cls := "com/example/termspan/termspan/options/Option", name := "isFlag", desc := "()Z" } : Jvm.MethodName)) ∈ tables_1 := List.mem_of_getElem? (i := 107) rfl
theorem w_108 : (Jvm.Cond.instanceMethod ({ cls := "com/example/termspan/termspan/options/Option", name := "isFlag", desc := "()Z" } : Jvm.MethodName)) ∈ tables_1 := List.mem_of_getElem? (i := 108) rfl
theorem w_109 : (Jvm.Cond.selects "com/example/termspan/termspan/options/Option" ({ cls := "com/example/termspan/termspan/options/Option", name := "isFlag", desc := "()Z" } : Jvm.MethodName) ({ cls := "com/example/termspan/termspan/options/Option", name := "isFlag", desc := "()Z" } : Jvm.MethodName)) ∈ tables_1 := List.mem_of_getElem? (i := 109) rfl
theorem w_110 : (Jvm.Cond.code ({ cls := "com/example/termspan/termspan/options/Option", name := "isFlag", desc := "()Z" } : Jvm.MethodName) prog_31_method_12_code (1 : Nat) (Option.some Jvm.ClassFile.FieldType.boolean)) ∈ tables_1 := List.mem_of_getElem? (i := 110) rfl
theorem pn_java_lang_StringUTF16 : plainName "java/lang/StringUTF16" = true := by first | (simp [plainName, overriddenIn]; done) | decide +kernel
theorem d6_0 : decode jdk_52_method_21_code 0 = .ok (.iconst 0, 1) := by decide +kernel
theorem d6_1 : decode jdk_52_method_21_code 1 = .ok (.istore 5, 2) := by decide +kernel
theorem d6_3 : decode jdk_52_method_21_code 3 = .ok (.iload 5, 2) := by decide +kernel
theorem d6_5 : decode jdk_52_method_21_code 5 = .ok (.iload 4, 2) := by decide +kernel
theorem d6_7 : decode jdk_52_method_21_code 7 = .ok (.if_icmp .ge 37, 3) := by decide +kernel
theorem d6_10 : decode jdk_52_method_21_code 10 = .ok (.aload_n 0, 1) := by decide +kernel
theorem d6_11 : decode jdk_52_method_21_code 11 = .ok (.iload_n 1, 1) := by decide +kernel
theorem d6_12 : decode jdk_52_method_21_code 12 = .ok (.caload, 1) := by decide +kernel
theorem d6_13 : decode jdk_52_method_21_code 13 = .ok (.istore 6, 2) := by decide +kernel
theorem d6_15 : decode jdk_52_method_21_code 15 = .ok (.iload 6, 2) := by decide +kernel
theorem d6_17 : decode jdk_52_method_21_code 17 = .ok (.sipush 255, 3) := by decide +kernel
theorem d6_20 : decode jdk_52_method_21_code 20 = .ok (.if_icmp .le 6, 3) := by decide +kernel
theorem d6_26 : decode jdk_52_method_21_code 26 = .ok (.aload_n 2, 1) := by decide +kernel
theorem d6_27 : decode jdk_52_method_21_code 27 = .ok (.iload_n 3, 1) := by decide +kernel
theorem d6_28 : decode jdk_52_method_21_code 28 = .ok (.iload 6, 2) := by decide +kernel
theorem d6_30 : decode jdk_52_method_21_code 30 = .ok (.i2b, 1) := by decide +kernel
theorem d6_31 : decode jdk_52_method_21_code 31 = .ok (.bastore, 1) := by decide +kernel
theorem d6_32 : decode jdk_52_method_21_code 32 = .ok (.iinc 1 1, 3) := by decide +kernel
theorem d6_35 : decode jdk_52_method_21_code 35 = .ok (.iinc 3 1, 3) := by decide +kernel
theorem d6_38 : decode jdk_52_method_21_code 38 = .ok (.iinc 5 1, 3) := by decide +kernel
theorem d6_41 : decode jdk_52_method_21_code 41 = .ok (.goto (-38), 3) := by decide +kernel
theorem d6_44 : decode jdk_52_method_21_code 44 = .ok (.iload 4, 2) := by decide +kernel
theorem d6_46 : decode jdk_52_method_21_code 46 = .ok (.ireturn, 1) := by decide +kernel
theorem d5_0 : decode jdk_52_method_16_code 0 = .ok (.iload_n 2, 1) := by decide +kernel
theorem d5_1 : decode jdk_52_method_16_code 1 = .ok (.newarray .byte, 2) := by decide +kernel
theorem d5_3 : decode jdk_52_method_16_code 3 = .ok (.astore_n 3, 1) := by decide +kernel
theorem d5_4 : decode jdk_52_method_16_code 4 = .ok (.aload_n 0, 1) := by decide +kernel
theorem d5_5 : decode jdk_52_method_16_code 5 = .ok (.iload_n 1, 1) := by decide +kernel
theorem d5_6 : decode jdk_52_method_16_code 6 = .ok (.aload_n 3, 1) := by decide +kernel
theorem d5_7 : decode jdk_52_method_16_code 7 = .ok (.iconst 0, 1) := by decide +kernel
theorem d5_8 : decode jdk_52_method_16_code 8 = .ok (.iload_n 2, 1) := by decide +kernel
theorem d5_9 : decode jdk_52_method_16_code 9 = .ok (.invokestatic 115, 3) := by decide +kernel
theorem pd_oACIABIIcI : parseMethodDescriptor "([CI[BII)I" = some ⟨[(.array .char), .int, (.array .byte), .int, .int], some .int⟩ := by decide +kernel
theorem d5_12 : decode jdk_52_method_16_code 12 = .ok (.istore 4, 2) := by decide +kernel
theorem d5_14 : decode jdk_52_method_16_code 14 = .ok (.iload 4, 2) := by decide +kernel
theorem d5_16 : decode jdk_52_method_16_code 16 = .ok (.iload_n 2, 1) := by decide +kernel
theorem d5_17 : decode jdk_52_method_16_code 17 = .ok (.if_icmp .eq 40, 3) := by decide +kernel
theorem d5_57 : decode jdk_52_method_16_code 57 = .ok (.aload_n 3, 1) := by decide +kernel
theorem d5_58 : decode jdk_52_method_16_code 58 = .ok (.areturn, 1) := by decide +kernel
theorem d7_0 : decode jdk_52_method_15_code 0 = .ok (.iload_n 1, 1) := by decide +kernel
theorem d7_1 : decode jdk_52_method_15_code 1 = .ok (.aload_n 0, 1) := by decide +kernel
theorem d7_2 : decode jdk_52_method_15_code 2 = .ok (.arraylength, 1) := by decide +kernel
theorem d7_3 : decode jdk_52_method_15_code 3 = .ok (.isub, 1) := by decide +kernel
theorem d7_4 : decode jdk_52_method_15_code 4 = .ok (.bipush 31, 2) := by decide +kernel
theorem d7_6 : decode jdk_52_method_15_code 6 = .ok (.iushr, 1) := by decide +kernel
theorem d7_7 : decode jdk_52_method_15_code 7 = .ok (.i2b, 1) := by decide +kernel
theorem d7_8 : decode jdk_52_method_15_code 8 = .ok (.ireturn, 1) := by decide +kernel
theorem pn_java_lang_String : plainName "java/lang/String" = true := by first | (simp [plainName, overriddenIn]; done) | decide +kernel
theorem d3_0 : decode jdk_42_method_149_code 0 = .ok (.aload_n 0, 1) := by decide +kernel
theorem d3_1 : decode jdk_42_method_149_code 1 = .ok (.invokespecial 1, 3) := by decide +kernel
theorem d3_4 : decode jdk_42_method_149_code 4 = .ok (.iload_n 3, 1) := by decide +kernel
theorem d3_5 : decode jdk_42_method_149_code 5 = .ok (.ifCond .ne 22, 3) := by decide +kernel
theorem d3_27 : decode jdk_42_method_149_code 27 = .ok (.getstatic 38, 3) := by decide +kernel
theorem d3_30 : decode jdk_42_method_149_code 30 = .ok (.ifCond .eq 28, 3) := by decide +kernel
theorem d3_33 : decode jdk_42_method_149_code 33 = .ok (.aload_n 1, 1) := by decide +kernel
theorem d3_34 : decode jdk_42_method_149_code 34 = .ok (.iload_n 2, 1) := by decide +kernel
theorem d3_35 : decode jdk_42_method_149_code 35 = .ok (.iload_n 3, 1) := by decide +kernel
theorem d3_36 : decode jdk_42_method_149_code 36 = .ok (.invokestatic 177, 3) := by decide +kernel
theorem pd_oACIIcAB : parseMethodDescriptor "([CII)[B" = some ⟨[(.array .char), .int, .int], some (.array .byte)⟩ := by decide +kernel
theorem d3_39 : decode jdk_42_method_149_code 39 = .ok (.astore 5, 2) := by decide +kernel
theorem d3_41 : decode jdk_42_method_149_code 41 = .ok (.aload_n 0, 1) := by decide +kernel
theorem d3_42 : decode jdk_42_method_149_code 42 = .ok (.aload 5, 2) := by decide +kernel
theorem d3_44 : decode jdk_42_method_149_code 44 = .ok (.iload_n 3, 1) := by decide +kernel
theorem d3_45 : decode jdk_42_method_149_code 45 = .ok (.invokestatic 47, 3) := by decide +kernel
theorem pd_oABIcB : parseMethodDescriptor "([BI)B" = some ⟨[(.array .byte), .int], some .byte⟩ := by decide +kernel
theorem d3_48 : decode jdk_42_method_149_code 48 = .ok (.putfield 15, 3) := by decide +kernel
theorem d3_51 : decode jdk_42_method_149_code 51 = .ok (.aload_n 0, 1) := by decide +kernel
theorem d3_52 : decode jdk_42_method_149_code 52 = .ok (.aload 5, 2) := by decide +kernel
theorem d3_54 : decode jdk_42_method_149_code 54 = .ok (.putfield 9, 3) := by decide +kernel
theorem d3_57 : decode jdk_42_method_149_code 57 = .ok (.return_, 1) := by decide +kernel
theorem d2_0 : decode jdk_42_method_3_code 0 = .ok (.aload_n 0, 1) := by decide +kernel
theorem d2_1 : decode jdk_42_method_3_code 1 = .ok (.aload_n 1, 1) := by decide +kernel
theorem d2_2 : decode jdk_42_method_3_code 2 = .ok (.iconst 0, 1) := by decide +kernel
theorem d2_3 : decode jdk_42_method_3_code 3 = .ok (.aload_n 1, 1) := by decide +kernel
theorem d2_4 : decode jdk_42_method_3_code 4 = .ok (.arraylength, 1) := by decide +kernel
theorem d2_5 : decode jdk_42_method_3_code 5 = .ok (.aconst_null, 1) := by decide +kernel
theorem d2_6 : decode jdk_42_method_3_code 6 = .ok (.invokespecial 27, 3) := by decide +kernel
theorem pd_oACIILjava_lang_Void_cV : parseMethodDescriptor "([CIILjava/lang/Void;)V" = some ⟨[(.array .char), .int, .int, (.object "java/lang/Void")], none⟩ := by decide +kernel
theorem d2_9 : decode jdk_42_method_3_code 9 = .ok (.return_, 1) := by decide +kernel
theorem d3_8 : decode jdk_42_method_149_code 8 = .ok (.aload_n 0, 1) := by decide +kernel
theorem d3_9 : decode jdk_42_method_149_code 9 = .ok (.ldc 7, 2) := by decide +kernel
theorem d3_11 : decode jdk_42_method_149_code 11 = .ok (.getfield 9, 3) := by decide +kernel
theorem d3_14 : decode jdk_42_method_149_code 14 = .ok (.putfield 9, 3) := by decide +kernel
theorem d3_17 : decode jdk_42_method_149_code 17 = .ok (.aload_n 0, 1) := by decide +kernel
theorem d3_18 : decode jdk_42_method_149_code 18 = .ok (.ldc 7, 2) := by decide +kernel
theorem d3_20 : decode jdk_42_method_149_code 20 = .ok (.getfield 15, 3) := by decide +kernel
theorem d3_23 : decode jdk_42_method_149_code 23 = .ok (.putfield 15, 3) := by decide +kernel
theorem d3_26 : decode jdk_42_method_149_code 26 = .ok (.return_, 1) := by decide +kernel
theorem pn_com_example_termspan_termspan_options_OptionFlagPinLaw : plainName "com/example/termspan/termspan/options/OptionFlagPinLaw" = true := by first | (simp [plainName, overriddenIn]; done) | decide +kernel
theorem d1_0 : decode method_2_code 0 = .ok (.iload_n 1, 1) := by decide +kernel
theorem d1_1 : decode method_2_code 1 = .ok (.sipush 255, 3) := by decide +kernel
theorem d1_4 : decode method_2_code 4 = .ok (.iand, 1) := by decide +kernel
theorem d1_5 : decode method_2_code 5 = .ok (.i2c, 1) := by decide +kernel
theorem d1_6 : decode method_2_code 6 = .ok (.istore_n 2, 1) := by decide +kernel
theorem d1_7 : decode method_2_code 7 = .ok (.iload_n 1, 1) := by decide +kernel
theorem d1_8 : decode method_2_code 8 = .ok (.bipush 8, 2) := by decide +kernel
theorem d1_10 : decode method_2_code 10 = .ok (.iushr, 1) := by decide +kernel
theorem d1_11 : decode method_2_code 11 = .ok (.sipush 255, 3) := by decide +kernel
theorem d1_14 : decode method_2_code 14 = .ok (.iand, 1) := by decide +kernel
theorem d1_15 : decode method_2_code 15 = .ok (.i2c, 1) := by decide +kernel
theorem d1_16 : decode method_2_code 16 = .ok (.istore_n 3, 1) := by decide +kernel
theorem d1_17 : decode method_2_code 17 = .ok (.iload_n 0, 1) := by decide +kernel
theorem d1_18 : decode method_2_code 18 = .ok (.ifCond .ne 14, 3) := by decide +kernel
theorem d1_21 : decode method_2_code 21 = .ok (.new 7, 3) := by decide +kernel
theorem d1_24 : decode method_2_code 24 = .ok (.dup, 1) := by decide +kernel
theorem d1_25 : decode method_2_code 25 = .ok (.iconst 0, 1) := by decide +kernel
theorem d1_26 : decode method_2_code 26 = .ok (.newarray .char, 2) := by decide +kernel
theorem d1_28 : decode method_2_code 28 = .ok (.invokespecial 9, 3) := by decide +kernel
theorem pd_oACcV : parseMethodDescriptor "([C)V" = some ⟨[(.array .char)], none⟩ := by decide +kernel
theorem d1_31 : decode method_2_code 31 = .ok (.areturn, 1) := by decide +kernel
theorem d1_32 : decode method_2_code 32 = .ok (.iload_n 0, 1) := by decide +kernel
theorem d1_33 : decode method_2_code 33 = .ok (.iconst 1, 1) := by decide +kernel
theorem d1_34 : decode method_2_code 34 = .ok (.if_icmp .ne 23, 3) := by decide +kernel
theorem d1_37 : decode method_2_code 37 = .ok (.iconst 1, 1) := by decide +kernel
theorem d1_38 : decode method_2_code 38 = .ok (.newarray .char, 2) := by decide +kernel
theorem d1_40 : decode method_2_code 40 = .ok (.astore 4, 2) := by decide +kernel
theorem d1_42 : decode method_2_code 42 = .ok (.aload 4, 2) := by decide +kernel
theorem d1_44 : decode method_2_code 44 = .ok (.iconst 0, 1) := by decide +kernel
theorem d1_45 : decode method_2_code 45 = .ok (.iload_n 2, 1) := by decide +kernel
theorem d1_46 : decode method_2_code 46 = .ok (.castore, 1) := by decide +kernel
theorem d1_47 : decode method_2_code 47 = .ok (.new 7, 3) := by decide +kernel
theorem d1_50 : decode method_2_code 50 = .ok (.dup, 1) := by decide +kernel
theorem d1_51 : decode method_2_code 51 = .ok (.aload 4, 2) := by decide +kernel
theorem d1_53 : decode method_2_code 53 = .ok (.invokespecial 9, 3) := by decide +kernel
theorem d1_56 : decode method_2_code 56 = .ok (.areturn, 1) := by decide +kernel
theorem d1_57 : decode method_2_code 57 = .ok (.iconst 2, 1) := by decide +kernel
theorem d1_58 : decode method_2_code 58 = .ok (.newarray .char, 2) := by decide +kernel
theorem d1_60 : decode method_2_code 60 = .ok (.astore 4, 2) := by decide +kernel
theorem d1_62 : decode method_2_code 62 = .ok (.aload 4, 2) := by decide +kernel
theorem d1_64 : decode method_2_code 64 = .ok (.iconst 0, 1) := by decide +kernel
theorem d1_65 : decode method_2_code 65 = .ok (.iload_n 2, 1) := by decide +kernel
theorem d1_66 : decode method_2_code 66 = .ok (.castore, 1) := by decide +kernel
theorem d1_67 : decode method_2_code 67 = .ok (.aload 4, 2) := by decide +kernel
theorem d1_69 : decode method_2_code 69 = .ok (.iconst 1, 1) := by decide +kernel
theorem d1_70 : decode method_2_code 70 = .ok (.iload_n 3, 1) := by decide +kernel
theorem d1_71 : decode method_2_code 71 = .ok (.castore, 1) := by decide +kernel
theorem d1_72 : decode method_2_code 72 = .ok (.new 7, 3) := by decide +kernel
theorem d1_75 : decode method_2_code 75 = .ok (.dup, 1) := by decide +kernel
theorem d1_76 : decode method_2_code 76 = .ok (.aload 4, 2) := by decide +kernel
theorem d1_78 : decode method_2_code 78 = .ok (.invokespecial 9, 3) := by decide +kernel
theorem d1_81 : decode method_2_code 81 = .ok (.areturn, 1) := by decide +kernel
theorem d12_0 : decode jdk_42_method_66_code 0 = .ok (.aload_n 0, 1) := by decide +kernel
theorem d12_1 : decode jdk_42_method_66_code 1 = .ok (.aload_n 1, 1) := by decide +kernel
theorem d12_2 : decode jdk_42_method_66_code 2 = .ok (.if_acmp .ne 5, 3) := by decide +kernel
theorem d12_5 : decode jdk_42_method_66_code 5 = .ok (.iconst 1, 1) := by decide +kernel
theorem d12_6 : decode jdk_42_method_66_code 6 = .ok (.ireturn, 1) := by decide +kernel
theorem pn_java_lang_Record : plainName "java/lang/Record" = true := by first | (simp [plainName, overriddenIn]; done) | decide +kernel
theorem d10_0 : decode jdk_30_method_1_code 0 = .ok (.aload_n 0, 1) := by decide +kernel
theorem d10_1 : decode jdk_30_method_1_code 1 = .ok (.invokespecial 1, 3) := by decide +kernel
theorem d10_4 : decode jdk_30_method_1_code 4 = .ok (.return_, 1) := by decide +kernel
theorem pn_com_example_termspan_termspan_options_Option : plainName "com/example/termspan/termspan/options/Option" = true := by first | (simp [plainName, overriddenIn]; done) | decide +kernel
theorem d9_0 : decode prog_31_method_1_code 0 = .ok (.aload_n 0, 1) := by decide +kernel
theorem d9_1 : decode prog_31_method_1_code 1 = .ok (.invokespecial 1, 3) := by decide +kernel
theorem pd_ocV : parseMethodDescriptor "()V" = some ⟨[], none⟩ := by decide +kernel
theorem d9_4 : decode prog_31_method_1_code 4 = .ok (.aload_n 0, 1) := by decide +kernel
theorem d9_5 : decode prog_31_method_1_code 5 = .ok (.aload_n 1, 1) := by decide +kernel
theorem d9_6 : decode prog_31_method_1_code 6 = .ok (.putfield 7, 3) := by decide +kernel
theorem d9_9 : decode prog_31_method_1_code 9 = .ok (.aload_n 0, 1) := by decide +kernel
theorem d9_10 : decode prog_31_method_1_code 10 = .ok (.aload_n 2, 1) := by decide +kernel
theorem d9_11 : decode prog_31_method_1_code 11 = .ok (.putfield 13, 3) := by decide +kernel
theorem d9_14 : decode prog_31_method_1_code 14 = .ok (.aload_n 0, 1) := by decide +kernel
theorem d9_15 : decode prog_31_method_1_code 15 = .ok (.aload_n 3, 1) := by decide +kernel
theorem d9_16 : decode prog_31_method_1_code 16 = .ok (.putfield 16, 3) := by decide +kernel
theorem d9_19 : decode prog_31_method_1_code 19 = .ok (.aload_n 0, 1) := by decide +kernel
theorem d9_20 : decode prog_31_method_1_code 20 = .ok (.iload 4, 2) := by decide +kernel
theorem d9_22 : decode prog_31_method_1_code 22 = .ok (.putfield 19, 3) := by decide +kernel
theorem d9_25 : decode prog_31_method_1_code 25 = .ok (.aload_n 0, 1) := by decide +kernel
theorem d9_26 : decode prog_31_method_1_code 26 = .ok (.iload 5, 2) := by decide +kernel
theorem d9_28 : decode prog_31_method_1_code 28 = .ok (.putfield 23, 3) := by decide +kernel
theorem d9_31 : decode prog_31_method_1_code 31 = .ok (.aload_n 0, 1) := by decide +kernel
theorem d9_32 : decode prog_31_method_1_code 32 = .ok (.aload 6, 2) := by decide +kernel
theorem d9_34 : decode prog_31_method_1_code 34 = .ok (.putfield 26, 3) := by decide +kernel
theorem d9_37 : decode prog_31_method_1_code 37 = .ok (.aload_n 0, 1) := by decide +kernel
theorem d9_38 : decode prog_31_method_1_code 38 = .ok (.aload 7, 2) := by decide +kernel
theorem d9_40 : decode prog_31_method_1_code 40 = .ok (.putfield 29, 3) := by decide +kernel
theorem d9_43 : decode prog_31_method_1_code 43 = .ok (.return_, 1) := by decide +kernel
theorem d8_0 : decode prog_31_method_6_code 0 = .ok (.new 8, 3) := by decide +kernel
theorem d8_3 : decode prog_31_method_6_code 3 = .ok (.dup, 1) := by decide +kernel
theorem d8_4 : decode prog_31_method_6_code 4 = .ok (.aload_n 0, 1) := by decide +kernel
theorem d8_5 : decode prog_31_method_6_code 5 = .ok (.aconst_null, 1) := by decide +kernel
theorem d8_6 : decode prog_31_method_6_code 6 = .ok (.aconst_null, 1) := by decide +kernel
theorem d8_7 : decode prog_31_method_6_code 7 = .ok (.iconst 0, 1) := by decide +kernel
theorem d8_8 : decode prog_31_method_6_code 8 = .ok (.iconst 0, 1) := by decide +kernel
theorem d8_9 : decode prog_31_method_6_code 9 = .ok (.aload_n 1, 1) := by decide +kernel
theorem d8_10 : decode prog_31_method_6_code 10 = .ok (.aconst_null, 1) := by decide +kernel
theorem d8_11 : decode prog_31_method_6_code 11 = .ok (.invokespecial 33, 3) := by decide +kernel
theorem pd_oLjava_lang_String_Ljava_lang_String_Ljava_lang_String_ZZLjava_lang_String_Lcom_example_termspan_termspan_options_OptionxRange_cV : parseMethodDescriptor "(Ljava/lang/String;Ljava/lang/String;Ljava/lang/String;ZZLjava/lang/String;Lcom/example/termspan/termspan/options/Option$Range;)V" = some ⟨[(.object "java/lang/String"), (.object "java/lang/String"), (.object "java/lang/String"), .boolean, .boolean, (.object "java/lang/String"), (.object "com/example/termspan/termspan/options/Option$Range")], none⟩ := by decide +kernel
theorem d8_14 : decode prog_31_method_6_code 14 = .ok (.areturn, 1) := by decide +kernel
theorem d11_0 : decode prog_31_method_20_code 0 = .ok (.aload_n 0, 1) := by decide +kernel
theorem d11_1 : decode prog_31_method_20_code 1 = .ok (.getfield 7, 3) := by decide +kernel
theorem d11_4 : decode prog_31_method_20_code 4 = .ok (.areturn, 1) := by decide +kernel
theorem d13_0 : decode prog_31_method_25_code 0 = .ok (.aload_n 0, 1) := by decide +kernel
theorem d13_1 : decode prog_31_method_25_code 1 = .ok (.getfield 26, 3) := by decide +kernel
theorem d13_4 : decode prog_31_method_25_code 4 = .ok (.areturn, 1) := by decide +kernel
theorem d14_0 : decode prog_31_method_21_code 0 = .ok (.aload_n 0, 1) := by decide +kernel
theorem d14_1 : decode prog_31_method_21_code 1 = .ok (.getfield 13, 3) := by decide +kernel
theorem d14_4 : decode prog_31_method_21_code 4 = .ok (.areturn, 1) := by decide +kernel
theorem d15_0 : decode prog_31_method_22_code 0 = .ok (.aload_n 0, 1) := by decide +kernel
theorem d15_1 : decode prog_31_method_22_code 1 = .ok (.getfield 16, 3) := by decide +kernel
theorem d15_4 : decode prog_31_method_22_code 4 = .ok (.areturn, 1) := by decide +kernel
theorem d18_0 : decode prog_31_method_26_code 0 = .ok (.aload_n 0, 1) := by decide +kernel
theorem d18_1 : decode prog_31_method_26_code 1 = .ok (.getfield 29, 3) := by decide +kernel
theorem d18_4 : decode prog_31_method_26_code 4 = .ok (.areturn, 1) := by decide +kernel
theorem d16_0 : decode prog_31_method_23_code 0 = .ok (.aload_n 0, 1) := by decide +kernel
theorem d16_1 : decode prog_31_method_23_code 1 = .ok (.getfield 19, 3) := by decide +kernel
theorem d16_4 : decode prog_31_method_23_code 4 = .ok (.ireturn, 1) := by decide +kernel
theorem d17_0 : decode prog_31_method_24_code 0 = .ok (.aload_n 0, 1) := by decide +kernel
theorem d17_1 : decode prog_31_method_24_code 1 = .ok (.getfield 23, 3) := by decide +kernel
theorem d17_4 : decode prog_31_method_24_code 4 = .ok (.ireturn, 1) := by decide +kernel
theorem d19_0 : decode prog_31_method_12_code 0 = .ok (.aload_n 0, 1) := by decide +kernel
theorem d19_1 : decode prog_31_method_12_code 1 = .ok (.getfield 13, 3) := by decide +kernel
theorem d19_4 : decode prog_31_method_12_code 4 = .ok (.ifnonnull 7, 3) := by decide +kernel
theorem d19_7 : decode prog_31_method_12_code 7 = .ok (.iconst 1, 1) := by decide +kernel
theorem d19_8 : decode prog_31_method_12_code 8 = .ok (.goto 4, 3) := by decide +kernel
theorem d19_12 : decode prog_31_method_12_code 12 = .ok (.ireturn, 1) := by decide +kernel
theorem pd_oIIcLjava_lang_String_ : parseMethodDescriptor "(II)Ljava/lang/String;" = some ⟨[.int, .int], some (.object "java/lang/String")⟩ := by decide +kernel
theorem pd_oLjava_lang_String_Ljava_lang_String_cLcom_example_termspan_termspan_options_Option_ : parseMethodDescriptor "(Ljava/lang/String;Ljava/lang/String;)Lcom/example/termspan/termspan/options/Option;" = some ⟨[(.object "java/lang/String"), (.object "java/lang/String")], some (.object "com/example/termspan/termspan/options/Option")⟩ := by decide +kernel
theorem pd_ocLjava_lang_String_ : parseMethodDescriptor "()Ljava/lang/String;" = some ⟨[], some (.object "java/lang/String")⟩ := by decide +kernel
theorem pd_oLjava_lang_Object_cZ : parseMethodDescriptor "(Ljava/lang/Object;)Z" = some ⟨[(.object "java/lang/Object")], some .boolean⟩ := by decide +kernel
theorem pd_ocZ : parseMethodDescriptor "()Z" = some ⟨[], some .boolean⟩ := by decide +kernel
theorem pd_ocLcom_example_termspan_termspan_options_OptionxRange_ : parseMethodDescriptor "()Lcom/example/termspan/termspan/options/Option$Range;" = some ⟨[], some (.object "com/example/termspan/termspan/options/Option$Range")⟩ := by decide +kernel
abbrev EL : List (String × Nat) := [("java/lang/String", 7)]
theorem strW {Z : State} {a0 : Array Value} (hw : ∀ d ∈ tables_1, d.before a0 Z = true) : ∀ a ∈ Bundle.stringAtoms, a.before a0 Z = true := fun d hd => hw d ((by decide +kernel : ∀ d ∈ Bundle.stringAtoms, d ∈ tables_1) d hd)
theorem elW {Z : State} {a0 : Array Value} (hw : ∀ d ∈ tables_1, d.before a0 Z = true) : EW Z a0 EL := (EW.cons (hw _ w_34) (by decide +kernel) EW.nil)
theorem and255 (x : Int32) : ¬ (255 : Int32) < ((Int32.toUInt32 (x &&& (255 : Int32))).toUInt16.toUInt32.toInt32) := by
  have h1 := c_mask x 255 8 (by decide) (by decide)
  have h2 := c_i2c (x &&& 255)
  have h3 : (255 : Int32).toInt = 255 := rfl
  rw [Int32.lt_iff_toInt_lt, h3]
  omega
set_option maxRecDepth 65536 in
set_option maxHeartbeats 40000000 in
theorem rmCmpB1 (l : Launch) (Z : State) (a0 : Array Value) (hw : ∀ d ∈ tables_1, d.before a0 Z = true) (n0 : Nat) (h0 : Heap) (O : Old Z n0 h0) (b d : Addr) (kb kd : ClassId) (x1 : Int32) (VB : Arv Z h0 b kb .char (1 : Int32) [(.int x1)] (.int (0 : Int32))) (VD : Arv Z h0 d kd .byte (1 : Int32) [(.int (0 : Int32))] (.int (0 : Int32))) (hp1 : ¬ (255 : Int32) < x1) (nd : n0 ≤ d) (nbd : b ≠ d) :
    ConW FrameEnd l Z [] (⟨"java/lang/StringUTF16", "compress", "([CI[BII)I"⟩ : MethodName) jdk_52_method_21_code 7 (some .int) ({ frames := 0, cells := 0, slots := 0, locals := 0 } : Room) #[(.ref b), (.int (0 : Int32)), (.ref d), (.int (0 : Int32)), (.int (1 : Int32))] h0 (fun v h L => v = some (.int (1 : Int32)) ∧ Fr n0 L ∧ Keep h0 h [d] ∧ Arv Z h d kd .byte (1 : Int32) [(.int ((Int32.toInt8 x1).toInt32))] (.int (0 : Int32))) := by
  refine conOf (plainFor_of_name pn_java_lang_StringUTF16) ?_
  intro p e s m below mth cc s₁ X0 hx hby hml hown hnm hret hlk hZ e0
  have N0 := Fr.nil n0
  have K0 := Keep.refl h0 ([d] : List Addr)
  refine Fin.came (castTop (t := _) (by first | (simp [entryFrame, mkF, argsToLocals, Value.category]; done) | rfl) (Steps.refl _) : Steps p.tables e below (s₁.setTop (entryFrame m #[(.ref b), (.int (0 : Int32)), (.ref d), (.int (0 : Int32)), (.int (1 : Int32))] 7)) (s₁.setTop (mkF m 0 #[.val (.ref b), .val (.int (0 : Int32)), .val (.ref d), .val (.int (0 : Int32)), .val (.int (1 : Int32)), .unset, .unset] []))) ?_
  show Fin _ p e below s _ _ _ s₁ (mkF m 0 #[.val (.ref b), .val (.int (0 : Int32)), .val (.ref d), .val (.int (0 : Int32)), .val (.int (1 : Int32)), .unset, .unset] [])
  refine Fin.go (fun _ k => XS.iconst X0.here hx rfl (hb hby d6_0) k) ?_
  show Fin _ p e below s _ _ _ s₁ (mkF m 1 #[.val (.ref b), .val (.int (0 : Int32)), .val (.ref d), .val (.int (0 : Int32)), .val (.int (1 : Int32)), .unset, .unset] [(.int (0 : Int32))])
  refine Fin.go (fun _ k => XS.istore X0.here hx rfl (hb hby d6_1) rfl (l' := #[.val (.ref b), .val (.int (0 : Int32)), .val (.ref d), .val (.int (0 : Int32)), .val (.int (1 : Int32)), .val (.int (0 : Int32)), .unset]) rfl k) ?_
  show Fin _ p e below s _ _ _ s₁ (mkF m 3 #[.val (.ref b), .val (.int (0 : Int32)), .val (.ref d), .val (.int (0 : Int32)), .val (.int (1 : Int32)), .val (.int (0 : Int32)), .unset] [])
  refine Fin.go (fun _ k => XS.iload X0.here hx rfl (hb hby d6_3) rfl k) ?_
  show Fin _ p e below s _ _ _ s₁ (mkF m 5 #[.val (.ref b), .val (.int (0 : Int32)), .val (.ref d), .val (.int (0 : Int32)), .val (.int (1 : Int32)), .val (.int (0 : Int32)), .unset] [(.int (0 : Int32))])
  refine Fin.go (fun _ k => XS.iload X0.here hx rfl (hb hby d6_5) rfl k) ?_
  show Fin _ p e below s _ _ _ s₁ (mkF m 7 #[.val (.ref b), .val (.int (0 : Int32)), .val (.ref d), .val (.int (0 : Int32)), .val (.int (1 : Int32)), .val (.int (0 : Int32)), .unset] [(.int (1 : Int32)), (.int (0 : Int32))])
  refine Fin.go (fun _ k => XS.icmpNo X0.here hx rfl (hb hby d6_7) rfl (XT.ii_ge_f (by decide)) k) ?_
  show Fin _ p e below s _ _ _ s₁ (mkF m 10 #[.val (.ref b), .val (.int (0 : Int32)), .val (.ref d), .val (.int (0 : Int32)), .val (.int (1 : Int32)), .val (.int (0 : Int32)), .unset] [])
  refine Fin.go (fun _ k => XS.aloadN X0.here hx rfl (hb hby d6_10) rfl rfl k) ?_
  show Fin _ p e below s _ _ _ s₁ (mkF m 11 #[.val (.ref b), .val (.int (0 : Int32)), .val (.ref d), .val (.int (0 : Int32)), .val (.int (1 : Int32)), .val (.int (0 : Int32)), .unset] [(.ref b)])
  refine Fin.go (fun _ k => XS.iloadN X0.here hx rfl (hb hby d6_11) rfl k) ?_
  show Fin _ p e below s _ _ _ s₁ (mkF m 12 #[.val (.ref b), .val (.int (0 : Int32)), .val (.ref d), .val (.int (0 : Int32)), .val (.int (1 : Int32)), .val (.int (0 : Int32)), .unset] [(.int (0 : Int32)), (.ref b)])
  obtain ⟨c11, B11, q11, S11, M11, H11, G11⟩ := id VB
  have i11 := inb_of S11 ⟨(by decide : ¬ ((0 : Int32) < (0 : Int32))), (by decide : (0 : Int32) < (1 : Int32))⟩
  refine Fin.go (fun _ k => X0.caload hx (j := (0 : Int32)) (v := (.int x1)) (by rw [e0]; exact B11.1) (State.isArrayOf_alike hZ.alike B11.2.1) B11.2.2 i11 (Has.at H11 i11 rfl) (g := (mkF m 12 #[.val (.ref b), .val (.int (0 : Int32)), .val (.ref d), .val (.int (0 : Int32)), .val (.int (1 : Int32)), .val (.int (0 : Int32)), .unset] [(.int (0 : Int32)), (.ref b)])) rfl rfl (hb hby d6_12) _ k) ?_
  show Fin _ p e below s _ _ _ s₁ (mkF m 13 #[.val (.ref b), .val (.int (0 : Int32)), .val (.ref d), .val (.int (0 : Int32)), .val (.int (1 : Int32)), .val (.int (0 : Int32)), .unset] [(.int x1)])
  refine Fin.go (fun _ k => XS.istore X0.here hx rfl (hb hby d6_13) rfl (l' := #[.val (.ref b), .val (.int (0 : Int32)), .val (.ref d), .val (.int (0 : Int32)), .val (.int (1 : Int32)), .val (.int (0 : Int32)), .val (.int x1)]) rfl k) ?_
  show Fin _ p e below s _ _ _ s₁ (mkF m 15 #[.val (.ref b), .val (.int (0 : Int32)), .val (.ref d), .val (.int (0 : Int32)), .val (.int (1 : Int32)), .val (.int (0 : Int32)), .val (.int x1)] [])
  refine Fin.go (fun _ k => XS.iload X0.here hx rfl (hb hby d6_15) rfl k) ?_
  show Fin _ p e below s _ _ _ s₁ (mkF m 17 #[.val (.ref b), .val (.int (0 : Int32)), .val (.ref d), .val (.int (0 : Int32)), .val (.int (1 : Int32)), .val (.int (0 : Int32)), .val (.int x1)] [(.int x1)])
  refine Fin.go (fun _ k => XS.sipush X0.here hx rfl (hb hby d6_17) k) ?_
  show Fin _ p e below s _ _ _ s₁ (mkF m 20 #[.val (.ref b), .val (.int (0 : Int32)), .val (.ref d), .val (.int (0 : Int32)), .val (.int (1 : Int32)), .val (.int (0 : Int32)), .val (.int x1)] [(.int (255 : Int32)), (.int x1)])
  refine Fin.go (fun _ k => XS.icmpYes X0.here hx rfl (pc0 := 20) (pc' := 26) rfl (hb hby d6_20) rfl (XT.ii_le_t hp1) (by decide) (by decide) k) ?_
  show Fin _ p e below s _ _ _ s₁ (mkF m 26 #[.val (.ref b), .val (.int (0 : Int32)), .val (.ref d), .val (.int (0 : Int32)), .val (.int (1 : Int32)), .val (.int (0 : Int32)), .val (.int x1)] [])
  refine Fin.go (fun _ k => XS.aloadN X0.here hx rfl (hb hby d6_26) rfl rfl k) ?_
  show Fin _ p e below s _ _ _ s₁ (mkF m 27 #[.val (.ref b), .val (.int (0 : Int32)), .val (.ref d), .val (.int (0 : Int32)), .val (.int (1 : Int32)), .val (.int (0 : Int32)), .val (.int x1)] [(.ref d)])
  refine Fin.go (fun _ k => XS.iloadN X0.here hx rfl (hb hby d6_27) rfl k) ?_
  show Fin _ p e below s _ _ _ s₁ (mkF m 28 #[.val (.ref b), .val (.int (0 : Int32)), .val (.ref d), .val (.int (0 : Int32)), .val (.int (1 : Int32)), .val (.int (0 : Int32)), .val (.int x1)] [(.int (0 : Int32)), (.ref d)])
  refine Fin.go (fun _ k => XS.iload X0.here hx rfl (hb hby d6_28) rfl k) ?_
  show Fin _ p e below s _ _ _ s₁ (mkF m 30 #[.val (.ref b), .val (.int (0 : Int32)), .val (.ref d), .val (.int (0 : Int32)), .val (.int (1 : Int32)), .val (.int (0 : Int32)), .val (.int x1)] [(.int x1), (.int (0 : Int32)), (.ref d)])
  refine Fin.go (fun _ k => XT.i2b X0.here hx rfl (hb hby d6_30) rfl k) ?_
  show Fin _ p e below s _ _ _ s₁ (mkF m 31 #[.val (.ref b), .val (.int (0 : Int32)), .val (.ref d), .val (.int (0 : Int32)), .val (.int (1 : Int32)), .val (.int (0 : Int32)), .val (.int x1)] [(.int ((Int32.toInt8 x1).toInt32)), (.int (0 : Int32)), (.ref d)])
  obtain ⟨c12, B12, q12, S12, M12, H12, G12⟩ := id VD
  obtain ⟨T12, h12, X12, e12, W12, st12⟩ := stB X0 hx hZ e0 B12 (j := (0 : Int32)) (inb_of S12 ⟨(by decide : ¬ ((0 : Int32) < (0 : Int32))), (by decide : (0 : Int32) < (1 : Int32))⟩) (g := (mkF m 31 #[.val (.ref b), .val (.int (0 : Int32)), .val (.ref d), .val (.int (0 : Int32)), .val (.int (1 : Int32)), .val (.int (0 : Int32)), .val (.int x1)] [(.int ((Int32.toInt8 x1).toInt32)), (.int (0 : Int32)), (.ref d)])) rfl rfl (hb hby d6_31)
  refine Fin.go st12 ?_
  have V12 : Arv Z h12 d kd .byte (1 : Int32) [(.int ((Int32.toInt8 x1).toInt32))] (.int (0 : Int32)) := (by have q : Arv Z h12 d kd .byte (1 : Int32) [(.int (nar .byte ((Int32.toInt8 x1).toInt32)))] (.int (0 : Int32)) := (Arv.set B12 q12 S12 M12 H12 G12 (fits_nar_byte _) W12 0 rfl (Nat.le_of_ble_eq_true rfl)); rwa [nar_b8] at q)
  have N12 := Fr.snoc X12 N0 nd
  have O12 := O.wr W12 nd
  have K12 := K0.wr W12 (Or.inl (List.mem_of_getElem? (i := 0) rfl))
  show Fin _ p e below s _ _ _ T12 (mkF m 32 #[.val (.ref b), .val (.int (0 : Int32)), .val (.ref d), .val (.int (0 : Int32)), .val (.int (1 : Int32)), .val (.int (0 : Int32)), .val (.int x1)] [])
  refine Fin.go (fun _ k => XS.iinc X12.here hx rfl (hb hby d6_32) rfl (l' := #[.val (.ref b), .val (.int ((0 : Int32) + (1 : Int32))), .val (.ref d), .val (.int (0 : Int32)), .val (.int (1 : Int32)), .val (.int (0 : Int32)), .val (.int x1)]) rfl k) ?_
  show Fin _ p e below s _ _ _ T12 (mkF m 35 #[.val (.ref b), .val (.int ((0 : Int32) + (1 : Int32))), .val (.ref d), .val (.int (0 : Int32)), .val (.int (1 : Int32)), .val (.int (0 : Int32)), .val (.int x1)] [])
  refine Fin.go (fun _ k => XS.iinc X12.here hx rfl (hb hby d6_35) rfl (l' := #[.val (.ref b), .val (.int ((0 : Int32) + (1 : Int32))), .val (.ref d), .val (.int ((0 : Int32) + (1 : Int32))), .val (.int (1 : Int32)), .val (.int (0 : Int32)), .val (.int x1)]) rfl k) ?_
  show Fin _ p e below s _ _ _ T12 (mkF m 38 #[.val (.ref b), .val (.int ((0 : Int32) + (1 : Int32))), .val (.ref d), .val (.int ((0 : Int32) + (1 : Int32))), .val (.int (1 : Int32)), .val (.int (0 : Int32)), .val (.int x1)] [])
  refine Fin.go (fun _ k => XS.iinc X12.here hx rfl (hb hby d6_38) rfl (l' := #[.val (.ref b), .val (.int ((0 : Int32) + (1 : Int32))), .val (.ref d), .val (.int ((0 : Int32) + (1 : Int32))), .val (.int (1 : Int32)), .val (.int ((0 : Int32) + (1 : Int32))), .val (.int x1)]) rfl k) ?_
  show Fin _ p e below s _ _ _ T12 (mkF m 41 #[.val (.ref b), .val (.int ((0 : Int32) + (1 : Int32))), .val (.ref d), .val (.int ((0 : Int32) + (1 : Int32))), .val (.int (1 : Int32)), .val (.int ((0 : Int32) + (1 : Int32))), .val (.int x1)] [])
  refine Fin.go (fun _ k => XS.goto X12.here hx rfl (pc0 := 41) (pc' := 3) rfl (hb hby d6_41) (by decide) (by decide) k) ?_
  show Fin _ p e below s _ _ _ T12 (mkF m 3 #[.val (.ref b), .val (.int ((0 : Int32) + (1 : Int32))), .val (.ref d), .val (.int ((0 : Int32) + (1 : Int32))), .val (.int (1 : Int32)), .val (.int ((0 : Int32) + (1 : Int32))), .val (.int x1)] [])
  refine Fin.go (fun _ k => XS.iload X12.here hx rfl (hb hby d6_3) rfl k) ?_
  show Fin _ p e below s _ _ _ T12 (mkF m 5 #[.val (.ref b), .val (.int ((0 : Int32) + (1 : Int32))), .val (.ref d), .val (.int ((0 : Int32) + (1 : Int32))), .val (.int (1 : Int32)), .val (.int ((0 : Int32) + (1 : Int32))), .val (.int x1)] [(.int ((0 : Int32) + (1 : Int32)))])
  refine Fin.go (fun _ k => XS.iload X12.here hx rfl (hb hby d6_5) rfl k) ?_
  show Fin _ p e below s _ _ _ T12 (mkF m 7 #[.val (.ref b), .val (.int ((0 : Int32) + (1 : Int32))), .val (.ref d), .val (.int ((0 : Int32) + (1 : Int32))), .val (.int (1 : Int32)), .val (.int ((0 : Int32) + (1 : Int32))), .val (.int x1)] [(.int (1 : Int32)), (.int ((0 : Int32) + (1 : Int32)))])
  refine Fin.go (fun _ k => XS.icmpYes X12.here hx rfl (pc0 := 7) (pc' := 44) rfl (hb hby d6_7) rfl (XT.ii_ge_t (by decide)) (by decide) (by decide) k) ?_
  show Fin _ p e below s _ _ _ T12 (mkF m 44 #[.val (.ref b), .val (.int ((0 : Int32) + (1 : Int32))), .val (.ref d), .val (.int ((0 : Int32) + (1 : Int32))), .val (.int (1 : Int32)), .val (.int ((0 : Int32) + (1 : Int32))), .val (.int x1)] [])
  refine Fin.go (fun _ k => XS.iload X12.here hx rfl (hb hby d6_44) rfl k) ?_
  show Fin _ p e below s _ _ _ T12 (mkF m 46 #[.val (.ref b), .val (.int ((0 : Int32) + (1 : Int32))), .val (.ref d), .val (.int ((0 : Int32) + (1 : Int32))), .val (.int (1 : Int32)), .val (.int ((0 : Int32) + (1 : Int32))), .val (.int x1)] [(.int (1 : Int32))])
  exact Fin.leaveN X12 e12 hlk (v := some (.int (1 : Int32))) (fun h => by rw [hret] at h; cases h) (by decide) (by decide) ⟨rfl, N12, K12, V12⟩ (fun fs hr => retI X12 hx hret (hb hby d6_46) hr)
set_option maxRecDepth 65536 in
set_option maxHeartbeats 40000000 in
theorem rmCmpA1 (l : Launch) (Z : State) (a0 : Array Value) (hw : ∀ d ∈ tables_1, d.before a0 Z = true) (n0 : Nat) (h0 : Heap) (O : Old Z n0 h0) (b : Addr) (kb : ClassId) (x1 : Int32) (VB : Arv Z h0 b kb .char (1 : Int32) [(.int x1)] (.int (0 : Int32))) (hp1 : ¬ (255 : Int32) < x1) :
    ConW FrameEnd l Z [] (⟨"java/lang/StringUTF16", "compress", "([CII)[B"⟩ : MethodName) jdk_52_method_16_code 6 (some (.array .byte)) ({ frames := 1, cells := 1, slots := 1, locals := 18 } : Room) #[(.ref b), (.int (0 : Int32)), (.int (1 : Int32))] h0 (fun v h L => ∃ d kd, v = some (.ref d) ∧ Fr n0 L ∧ Keep h0 h [] ∧ Arv Z h d kd .byte (1 : Int32) [(.int ((Int32.toInt8 x1).toInt32))] (.int (0 : Int32)) ∧ h0.size ≤ d) := by
  refine conOf (plainFor_of_name pn_java_lang_StringUTF16) ?_
  intro p e s m below mth cc s₁ X0 hx hby hml hown hnm hret hlk hZ e0
  have N0 := Fr.nil n0
  have K0 := Keep.refl h0 ([] : List Addr)
  refine Fin.came (castTop (t := _) (by first | (simp [entryFrame, mkF, argsToLocals, Value.category]; done) | rfl) (Steps.refl _) : Steps p.tables e below (s₁.setTop (entryFrame m #[(.ref b), (.int (0 : Int32)), (.int (1 : Int32))] 6)) (s₁.setTop (mkF m 0 #[.val (.ref b), .val (.int (0 : Int32)), .val (.int (1 : Int32)), .unset, .unset, .unset] []))) ?_
  show Fin _ p e below s _ _ _ s₁ (mkF m 0 #[.val (.ref b), .val (.int (0 : Int32)), .val (.int (1 : Int32)), .unset, .unset, .unset] [])
  refine Fin.go (fun _ k => XS.iloadN X0.here hx rfl (hb hby d5_0) rfl k) ?_
  show Fin _ p e below s _ _ _ s₁ (mkF m 1 #[.val (.ref b), .val (.int (0 : Int32)), .val (.int (1 : Int32)), .unset, .unset, .unset] [(.int (1 : Int32))])
  obtain ⟨T11, h11, k11, X11, e11, E11, A11, st11⟩ := newP X0 hx hZ (aty := .byte) (hw _ w_23) e0 (g := (mkF m 1 #[.val (.ref b), .val (.int (0 : Int32)), .val (.int (1 : Int32)), .unset, .unset, .unset] [(.int (1 : Int32))])) rfl (hb hby d5_1) rfl (by decide : ¬ ((1 : Int32) < (0 : Int32))) (cap := 1) (by decide) (by decide) (by decide) (by decide)
  obtain ⟨a11, g11⟩ : ∃ z, z = h0.size := ⟨_, rfl⟩
  rw [← g11] at A11 st11
  refine Fin.go st11 ?_
  have O11 := O.ext E11
  have K11 := K0.ext E11
  have n11 : n0 ≤ a11 := by have := O.2.1; have := O.1; omega
  have z11 : h0.size ≤ a11 := by have := K0.1; omega
  have V11 : Arv Z h11 a11 k11 .byte (1 : Int32) [(.int (0 : Int32))] (.int (0 : Int32)) := (Arv.new A11 (by decide)).pad (pad_rep [] (.int (0 : Int32)) 1)
  show Fin _ p e below s _ _ _ T11 (mkF m 3 #[.val (.ref b), .val (.int (0 : Int32)), .val (.int (1 : Int32)), .unset, .unset, .unset] [(.ref a11)])
  refine Fin.go (fun _ k => XS.astoreN X11.here hx rfl (hb hby d5_3) rfl rfl (l' := #[.val (.ref b), .val (.int (0 : Int32)), .val (.int (1 : Int32)), .val (.ref a11), .unset, .unset]) rfl k) ?_
  show Fin _ p e below s _ _ _ T11 (mkF m 4 #[.val (.ref b), .val (.int (0 : Int32)), .val (.int (1 : Int32)), .val (.ref a11), .unset, .unset] [])
  refine Fin.go (fun _ k => XS.aloadN X11.here hx rfl (hb hby d5_4) rfl rfl k) ?_
  show Fin _ p e below s _ _ _ T11 (mkF m 5 #[.val (.ref b), .val (.int (0 : Int32)), .val (.int (1 : Int32)), .val (.ref a11), .unset, .unset] [(.ref b)])
  refine Fin.go (fun _ k => XS.iloadN X11.here hx rfl (hb hby d5_5) rfl k) ?_
  show Fin _ p e below s _ _ _ T11 (mkF m 6 #[.val (.ref b), .val (.int (0 : Int32)), .val (.int (1 : Int32)), .val (.ref a11), .unset, .unset] [(.int (0 : Int32)), (.ref b)])
  refine Fin.go (fun _ k => XS.aloadN X11.here hx rfl (hb hby d5_6) rfl rfl k) ?_
  show Fin _ p e below s _ _ _ T11 (mkF m 7 #[.val (.ref b), .val (.int (0 : Int32)), .val (.int (1 : Int32)), .val (.ref a11), .unset, .unset] [(.ref a11), (.int (0 : Int32)), (.ref b)])
  refine Fin.go (fun _ k => XS.iconst X11.here hx rfl (hb hby d5_7) k) ?_
  show Fin _ p e below s _ _ _ T11 (mkF m 8 #[.val (.ref b), .val (.int (0 : Int32)), .val (.int (1 : Int32)), .val (.ref a11), .unset, .unset] [(.int (0 : Int32)), (.ref a11), (.int (0 : Int32)), (.ref b)])
  refine Fin.go (fun _ k => XS.iloadN X11.here hx rfl (hb hby d5_8) rfl k) ?_
  show Fin _ p e below s _ _ _ T11 (mkF m 9 #[.val (.ref b), .val (.int (0 : Int32)), .val (.int (1 : Int32)), .val (.ref a11), .unset, .unset] [(.int (1 : Int32)), (.int (0 : Int32)), (.ref a11), (.int (0 : Int32)), (.ref b)])
  obtain ⟨v12, T12, L12, X12, q12, st12⟩ := callSt X11 hx hZ (y := (⟨"java/lang/StringUTF16", "compress", "([CI[BII)I"⟩ : MethodName)) hown (hw _ w_24) (hw _ w_25) (hw _ w_21) (hw _ w_26) (by decide) (W := 0) (rmCmpB1 l Z a0 hw n0 h11 O11 b a11 kb k11 x1 (VB.ext E11) V11 hp1 n11 (Nat.ne_of_lt (Nat.lt_of_lt_of_eq VB.lt g11.symm))) e11 (by decide) (by decide) (by decide) (by decide) (g := (mkF m 9 #[.val (.ref b), .val (.int (0 : Int32)), .val (.int (1 : Int32)), .val (.ref a11), .unset, .unset] [(.int (1 : Int32)), (.int (0 : Int32)), (.ref a11), (.int (0 : Int32)), (.ref b)])) rfl (by rw [hml]; rfl) (argsL := [(.ref b), (.int (0 : Int32)), (.ref a11), (.int (0 : Int32)), (.int (1 : Int32))]) (rest := []) (lenOf pd_oACIABIIcI rfl) rfl (by show 2 * 0 + _ ≤ _; exact Nat.le_of_eq rfl) (hb hby d5_9)
  obtain ⟨rfl, Nq12, Kq12, V12⟩ := q12
  have N12 := Fr.app N0 Nq12
  have O12 := O11.keep Kq12 (allS n11 all0)
  have K12 := K11.trans Kq12 (allS (Or.inr z11) all0)
  refine Fin.go st12 ?_
  have V12_b := ((VB.ext E11).keep Kq12 (ninS (Nat.ne_of_lt (Nat.lt_of_lt_of_eq VB.lt g11.symm)) nin0))
  show Fin _ p e below s _ _ _ T12 (mkF m 12 #[.val (.ref b), .val (.int (0 : Int32)), .val (.int (1 : Int32)), .val (.ref a11), .unset, .unset] [(.int (1 : Int32))])
  refine Fin.go (fun _ k => XS.istore X12.here hx rfl (hb hby d5_12) rfl (l' := #[.val (.ref b), .val (.int (0 : Int32)), .val (.int (1 : Int32)), .val (.ref a11), .val (.int (1 : Int32)), .unset]) rfl k) ?_
  show Fin _ p e below s _ _ _ T12 (mkF m 14 #[.val (.ref b), .val (.int (0 : Int32)), .val (.int (1 : Int32)), .val (.ref a11), .val (.int (1 : Int32)), .unset] [])
  refine Fin.go (fun _ k => XS.iload X12.here hx rfl (hb hby d5_14) rfl k) ?_
  show Fin _ p e below s _ _ _ T12 (mkF m 16 #[.val (.ref b), .val (.int (0 : Int32)), .val (.int (1 : Int32)), .val (.ref a11), .val (.int (1 : Int32)), .unset] [(.int (1 : Int32))])
  refine Fin.go (fun _ k => XS.iloadN X12.here hx rfl (hb hby d5_16) rfl k) ?_
  show Fin _ p e below s _ _ _ T12 (mkF m 17 #[.val (.ref b), .val (.int (0 : Int32)), .val (.int (1 : Int32)), .val (.ref a11), .val (.int (1 : Int32)), .unset] [(.int (1 : Int32)), (.int (1 : Int32))])
  refine Fin.go (fun _ k => XS.icmpYes X12.here hx rfl (pc0 := 17) (pc' := 57) rfl (hb hby d5_17) rfl (XT.ii_eq_t (by decide)) (by decide) (by decide) k) ?_
  show Fin _ p e below s _ _ _ T12 (mkF m 57 #[.val (.ref b), .val (.int (0 : Int32)), .val (.int (1 : Int32)), .val (.ref a11), .val (.int (1 : Int32)), .unset] [])
  refine Fin.go (fun _ k => XS.aloadN X12.here hx rfl (hb hby d5_57) rfl rfl k) ?_
  show Fin _ p e below s _ _ _ T12 (mkF m 58 #[.val (.ref b), .val (.int (0 : Int32)), .val (.int (1 : Int32)), .val (.ref a11), .val (.int (1 : Int32)), .unset] [(.ref a11)])
  exact Fin.leaveN X12 (rfl : T12.heap = T12.heap) hlk (v := some (.ref a11)) (fun h => by rw [hret] at h; cases h) (by decide) (by decide) ⟨a11, k11, rfl, N12, K12, V12, z11⟩ (fun fs hr => retOut X12 hx hret rfl (Or.inr (Or.inr (Or.inr (Or.inr ⟨rfl, rfl, rfl⟩)))) (hb hby d5_58) hr)
set_option maxRecDepth 65536 in
set_option maxHeartbeats 40000000 in
theorem rmCod1 (l : Launch) (Z : State) (a0 : Array Value) (hw : ∀ d ∈ tables_1, d.before a0 Z = true) (n0 : Nat) (h0 : Heap) (O : Old Z n0 h0) (d : Addr) (kd : ClassId) (x1 : Int32) (VD : Arv Z h0 d kd .byte (1 : Int32) [(.int x1)] (.int (0 : Int32))) :
    ConW FrameEnd l Z [] (⟨"java/lang/StringUTF16", "coderFromArrayLen", "([BI)B"⟩ : MethodName) jdk_52_method_15_code 2 (some .byte) ({ frames := 0, cells := 0, slots := 0, locals := 0 } : Room) #[(.ref d), (.int (1 : Int32))] h0 (Pure h0 (some (.int (0 : Int32)))) := by
  refine conOf (plainFor_of_name pn_java_lang_StringUTF16) ?_
  intro p e s m below mth cc s₁ X0 hx hby hml hown hnm hret hlk hZ e0
  have N0 := Fr.nil n0
  refine Fin.came (castTop (t := _) (by first | (simp [entryFrame, mkF, argsToLocals, Value.category]; done) | rfl) (Steps.refl _) : Steps p.tables e below (s₁.setTop (entryFrame m #[(.ref d), (.int (1 : Int32))] 2)) (s₁.setTop (mkF m 0 #[.val (.ref d), .val (.int (1 : Int32))] []))) ?_
  show Fin _ p e below s _ _ _ s₁ (mkF m 0 #[.val (.ref d), .val (.int (1 : Int32))] [])
  refine Fin.go (fun _ k => XS.iloadN X0.here hx rfl (hb hby d7_0) rfl k) ?_
  show Fin _ p e below s _ _ _ s₁ (mkF m 1 #[.val (.ref d), .val (.int (1 : Int32))] [(.int (1 : Int32))])
  refine Fin.go (fun _ k => XS.aloadN X0.here hx rfl (hb hby d7_1) rfl rfl k) ?_
  show Fin _ p e below s _ _ _ s₁ (mkF m 2 #[.val (.ref d), .val (.int (1 : Int32))] [(.ref d), (.int (1 : Int32))])
  obtain ⟨c11, B11, q11, S11, M11, H11, G11⟩ := id VD
  refine Fin.go (fun _ k => X0.arraylength hx (by rw [e0]; exact B11.1) (State.isArrayOf_alike hZ.alike B11.2.1) (g := (mkF m 2 #[.val (.ref d), .val (.int (1 : Int32))] [(.ref d), (.int (1 : Int32))])) rfl rfl (hb hby d7_2) _ k) ?_
  rw [len_of S11 M11]
  show Fin _ p e below s _ _ _ s₁ (mkF m 3 #[.val (.ref d), .val (.int (1 : Int32))] [(.int (1 : Int32)), (.int (1 : Int32))])
  refine Fin.go (fun _ k => XS.isub X0.here hx rfl (hb hby d7_3) rfl k) ?_
  show Fin _ p e below s _ _ _ s₁ (mkF m 4 #[.val (.ref d), .val (.int (1 : Int32))] [(.int ((1 : Int32) - (1 : Int32)))])
  refine Fin.go (fun _ k => XS.bipush X0.here hx rfl (hb hby d7_4) k) ?_
  show Fin _ p e below s _ _ _ s₁ (mkF m 6 #[.val (.ref d), .val (.int (1 : Int32))] [(.int (31 : Int32)), (.int ((1 : Int32) - (1 : Int32)))])
  refine Fin.go (fun _ k => XT.iushr X0.here hx rfl (hb hby d7_6) rfl k) ?_
  show Fin _ p e below s _ _ _ s₁ (mkF m 7 #[.val (.ref d), .val (.int (1 : Int32))] [(.int (XT.ushr ((1 : Int32) - (1 : Int32)) (31 : Int32)))])
  refine Fin.go (fun _ k => XT.i2b X0.here hx rfl (hb hby d7_7) rfl k) ?_
  show Fin _ p e below s _ _ _ s₁ (mkF m 8 #[.val (.ref d), .val (.int (1 : Int32))] [(.int ((Int32.toInt8 (XT.ushr ((1 : Int32) - (1 : Int32)) (31 : Int32))).toInt32))])
  exact Fin.leaveN X0 e0 hlk (v := some (.int (nar .byte ((Int32.toInt8 (XT.ushr ((1 : Int32) - (1 : Int32)) (31 : Int32))).toInt32)))) (fun h => by rw [hret] at h; cases h) (by decide) (by decide) ⟨by decide +kernel, rfl, rfl⟩ (fun fs hr => retN X0 hx (t := .byte) hret (by simp) (hb hby d7_8) hr)
set_option maxRecDepth 65536 in
set_option maxHeartbeats 40000000 in
theorem rmStrV1 (l : Launch) (Z : State) (a0 : Array Value) (hw : ∀ d ∈ tables_1, d.before a0 Z = true) (n0 : Nat) (h0 : Heap) (O : Old Z n0 h0) (a b : Addr) (kb : ClassId) (x1 : Int32) (cs : Int32) (S_cs : Sta Z Z.heap "java/lang/String" "COMPACT_STRINGS" "Z" (.int cs)) (hcs : ¬ cs = 0) (VB : Arv Z h0 b kb .char (1 : Int32) [(.int x1)] (.int (0 : Int32))) (A : Exa Z h0 a "java/lang/String") (F1 : Fld Z h0 a "java/lang/String" "coder" "B" (.int (0 : Int32))) (F2 : Fld Z h0 a "java/lang/String" "value" "[B" .null) (hp1 : ¬ (255 : Int32) < x1) (na : n0 ≤ a) (nba : b ≠ a) :
    ConW FrameEnd l Z [] (⟨"java/lang/String", "<init>", "([CIILjava/lang/Void;)V"⟩ : MethodName) jdk_42_method_149_code 6 none ({ frames := 2, cells := 1, slots := 1, locals := 35 } : Room) #[(.ref a), (.ref b), (.int (0 : Int32)), (.int (1 : Int32)), .null] h0 (fun v h L => v = none ∧ Fr n0 L ∧ Keep h0 h [a] ∧ Exa Z h a "java/lang/String" ∧ Fld Z h a "java/lang/String" "coder" "B" (.int (0 : Int32)) ∧ ∃ d kd, Fld Z h a "java/lang/String" "value" "[B" (.ref d) ∧ Arv Z h d kd .byte (1 : Int32) [(.int ((Int32.toInt8 x1).toInt32))] (.int (0 : Int32)) ∧ h0.size ≤ d) := by
  refine conOf (plainFor_of_name pn_java_lang_String) ?_
  intro p e s m below mth cc s₁ X0 hx hby hml hown hnm hret hlk hZ e0
  have N0 := Fr.nil n0
  have K0 := Keep.refl h0 ([a] : List Addr)
  refine Fin.came (castTop (t := _) (by first | (simp [entryFrame, mkF, argsToLocals, Value.category]; done) | rfl) (Steps.refl _) : Steps p.tables e below (s₁.setTop (entryFrame m #[(.ref a), (.ref b), (.int (0 : Int32)), (.int (1 : Int32)), .null] 6)) (s₁.setTop (mkF m 0 #[.val (.ref a), .val (.ref b), .val (.int (0 : Int32)), .val (.int (1 : Int32)), .val .null, .unset] []))) ?_
  show Fin _ p e below s _ _ _ s₁ (mkF m 0 #[.val (.ref a), .val (.ref b), .val (.int (0 : Int32)), .val (.int (1 : Int32)), .val .null, .unset] [])
  refine Fin.go (fun _ k => XS.aloadN X0.here hx rfl (hb hby d3_0) rfl rfl k) ?_
  show Fin _ p e below s _ _ _ s₁ (mkF m 1 #[.val (.ref a), .val (.ref b), .val (.int (0 : Int32)), .val (.int (1 : Int32)), .val .null, .unset] [(.ref a)])
  obtain ⟨T11, X11, e11, st11⟩ := initO X0 hx hZ hown (hw _ w_15) (hw _ w_16) (hw _ w_17) e0 (g := (mkF m 1 #[.val (.ref a), .val (.ref b), .val (.int (0 : Int32)), .val (.int (1 : Int32)), .val .null, .unset] [(.ref a)])) rfl (by rw [hml]; rfl) rfl (hb hby d3_1) (by decide) (W := 0) (by show 2 * 0 + _ ≤ _; exact Nat.le_of_eq rfl) (by decide)
  refine Fin.go st11 ?_
  show Fin _ p e below s _ _ _ T11 (mkF m 4 #[.val (.ref a), .val (.ref b), .val (.int (0 : Int32)), .val (.int (1 : Int32)), .val .null, .unset] [])
  refine Fin.go (fun _ k => XS.iloadN X11.here hx rfl (hb hby d3_4) rfl k) ?_
  show Fin _ p e below s _ _ _ T11 (mkF m 5 #[.val (.ref a), .val (.ref b), .val (.int (0 : Int32)), .val (.int (1 : Int32)), .val .null, .unset] [(.int (1 : Int32))])
  refine Fin.go (fun _ k => XS.ifYes X11.here hx rfl (pc0 := 5) (pc' := 27) rfl (hb hby d3_5) rfl (XT.i0_ne_t (by decide)) (by decide) (by decide) k) ?_
  show Fin _ p e below s _ _ _ T11 (mkF m 27 #[.val (.ref a), .val (.ref b), .val (.int (0 : Int32)), .val (.int (1 : Int32)), .val .null, .unset] [])
  obtain ⟨T12, X12, e12, st12⟩ := getS2 X11 hx hZ hown (host := "") (Or.inl (hw _ w_18)) Via.refl e11 (S_cs.ext O.2) (g := (mkF m 27 #[.val (.ref a), .val (.ref b), .val (.int (0 : Int32)), .val (.int (1 : Int32)), .val .null, .unset] [])) rfl (hb hby d3_27)
  refine Fin.go st12 ?_
  show Fin _ p e below s _ _ _ T12 (mkF m 30 #[.val (.ref a), .val (.ref b), .val (.int (0 : Int32)), .val (.int (1 : Int32)), .val .null, .unset] [(.int cs)])
  refine Fin.go (fun _ k => XS.ifNo X12.here hx rfl (hb hby d3_30) rfl (XT.i0_eq_f hcs) k) ?_
  show Fin _ p e below s _ _ _ T12 (mkF m 33 #[.val (.ref a), .val (.ref b), .val (.int (0 : Int32)), .val (.int (1 : Int32)), .val .null, .unset] [])
  refine Fin.go (fun _ k => XS.aloadN X12.here hx rfl (hb hby d3_33) rfl rfl k) ?_
  show Fin _ p e below s _ _ _ T12 (mkF m 34 #[.val (.ref a), .val (.ref b), .val (.int (0 : Int32)), .val (.int (1 : Int32)), .val .null, .unset] [(.ref b)])
  refine Fin.go (fun _ k => XS.iloadN X12.here hx rfl (hb hby d3_34) rfl k) ?_
  show Fin _ p e below s _ _ _ T12 (mkF m 35 #[.val (.ref a), .val (.ref b), .val (.int (0 : Int32)), .val (.int (1 : Int32)), .val .null, .unset] [(.int (0 : Int32)), (.ref b)])
  refine Fin.go (fun _ k => XS.iloadN X12.here hx rfl (hb hby d3_35) rfl k) ?_
  show Fin _ p e below s _ _ _ T12 (mkF m 36 #[.val (.ref a), .val (.ref b), .val (.int (0 : Int32)), .val (.int (1 : Int32)), .val .null, .unset] [(.int (1 : Int32)), (.int (0 : Int32)), (.ref b)])
  obtain ⟨v13, T13, L13, X13, q13, st13⟩ := callSt X12 hx hZ (y := (⟨"java/lang/StringUTF16", "compress", "([CII)[B"⟩ : MethodName)) hown (hw _ w_19) (hw _ w_20) (hw _ w_21) (hw _ w_22) (by decide) (W := 0) (rmCmpA1 l Z a0 hw n0 h0 O b kb x1 VB hp1) e12 (by decide) (by decide) (by decide) (by decide) (g := (mkF m 36 #[.val (.ref a), .val (.ref b), .val (.int (0 : Int32)), .val (.int (1 : Int32)), .val .null, .unset] [(.int (1 : Int32)), (.int (0 : Int32)), (.ref b)])) rfl (by rw [hml]; rfl) (argsL := [(.ref b), (.int (0 : Int32)), (.int (1 : Int32))]) (rest := []) (lenOf pd_oACIIcAB rfl) rfl (by show 2 * 0 + _ ≤ _; exact Nat.le_of_eq rfl) (hb hby d3_36)
  obtain ⟨d13, kd13, rfl, Nq13, Kq13, V13, zd13⟩ := q13
  have N13 := Fr.app N0 Nq13
  have O13 := O.keep Kq13 all0
  have K13 := K0.trans Kq13 all0
  refine Fin.go st13 ?_
  show Fin _ p e below s _ _ _ T13 (mkF m 39 #[.val (.ref a), .val (.ref b), .val (.int (0 : Int32)), .val (.int (1 : Int32)), .val .null, .unset] [(.ref d13)])
  have nzd13 : n0 ≤ d13 := Nat.le_trans (by have := O.1; have := O.2.1; omega) zd13
  have hzd13 : h0.size ≤ d13 := Nat.le_trans K0.1 zd13
  refine Fin.go (fun _ k => XS.astore X13.here hx rfl (hb hby d3_39) rfl rfl (l' := #[.val (.ref a), .val (.ref b), .val (.int (0 : Int32)), .val (.int (1 : Int32)), .val .null, .val (.ref d13)]) rfl k) ?_
  show Fin _ p e below s _ _ _ T13 (mkF m 41 #[.val (.ref a), .val (.ref b), .val (.int (0 : Int32)), .val (.int (1 : Int32)), .val .null, .val (.ref d13)] [])
  refine Fin.go (fun _ k => XS.aloadN X13.here hx rfl (hb hby d3_41) rfl rfl k) ?_
  show Fin _ p e below s _ _ _ T13 (mkF m 42 #[.val (.ref a), .val (.ref b), .val (.int (0 : Int32)), .val (.int (1 : Int32)), .val .null, .val (.ref d13)] [(.ref a)])
  refine Fin.go (fun _ k => XS.aload X13.here hx rfl (hb hby d3_42) rfl rfl k) ?_
  show Fin _ p e below s _ _ _ T13 (mkF m 44 #[.val (.ref a), .val (.ref b), .val (.int (0 : Int32)), .val (.int (1 : Int32)), .val .null, .val (.ref d13)] [(.ref d13), (.ref a)])
  refine Fin.go (fun _ k => XS.iloadN X13.here hx rfl (hb hby d3_44) rfl k) ?_
  show Fin _ p e below s _ _ _ T13 (mkF m 45 #[.val (.ref a), .val (.ref b), .val (.int (0 : Int32)), .val (.int (1 : Int32)), .val .null, .val (.ref d13)] [(.int (1 : Int32)), (.ref d13), (.ref a)])
  obtain ⟨v14, T14, L14, X14, q14, st14⟩ := callSt X13 hx hZ (y := (⟨"java/lang/StringUTF16", "coderFromArrayLen", "([BI)B"⟩ : MethodName)) hown (hw _ w_27) (hw _ w_28) (hw _ w_21) (hw _ w_29) (by decide) (W := 1) (rmCod1 l Z a0 hw n0 T13.heap O13 d13 kd13 ((Int32.toInt8 x1).toInt32) V13) (rfl : T13.heap = T13.heap) (by decide) (by decide) (by decide) (by decide) (g := (mkF m 45 #[.val (.ref a), .val (.ref b), .val (.int (0 : Int32)), .val (.int (1 : Int32)), .val .null, .val (.ref d13)] [(.int (1 : Int32)), (.ref d13), (.ref a)])) rfl (by rw [hml]; rfl) (argsL := [(.ref d13), (.int (1 : Int32))]) (rest := [(.ref a)]) (lenOf pd_oABIcB rfl) rfl (by show 2 * 0 + _ ≤ _; exact Nat.le_of_eq rfl) (hb hby d3_45)
  obtain ⟨rfl, e14, rfl⟩ := q14
  have N14 := Fr.app N13 (Fr.nil n0)
  refine Fin.go st14 ?_
  show Fin _ p e below s _ _ _ T14 (mkF m 48 #[.val (.ref a), .val (.ref b), .val (.int (0 : Int32)), .val (.int (1 : Int32)), .val .null, .val (.ref d13)] [(.int (0 : Int32)), (.ref a)])
  obtain ⟨T15, h15, X15, e15, W15, st15⟩ := putF X14 hx hZ hown (host := "") (Or.inl (hw _ w_30)) Via.refl e14 (F1.keep Kq13 nin0) (A.keep Kq13) (Or.inr ⟨(hw _ w_31), rfl, hnm⟩) (hw _ w_6) (ty := .byte) (by decide) rfl rfl (g := (mkF m 48 #[.val (.ref a), .val (.ref b), .val (.int (0 : Int32)), .val (.int (1 : Int32)), .val .null, .val (.ref d13)] [(.int (0 : Int32)), (.ref a)])) rfl rfl (hb hby d3_48)
  refine Fin.go st15 ?_
  have N15 := Fr.snoc X15 N14 na
  have O15 := O13.wr W15 na
  have K15 := K13.wr W15 (Or.inl (List.mem_of_getElem? (i := 0) rfl))
  have F15_a_value := ((F2.keep Kq13 nin0).other W15 (Or.inr (slot_ne (Or.inr (hw _ w_33)) (Or.inr (hw _ w_31)) (by decide) (t := (.array .byte)) (t' := .byte) (by decide) (by decide))))
  have V15_d13 := (V13.other W15 (Ne.symm (Nat.ne_of_lt (Nat.lt_of_lt_of_le F2.lt zd13))))
  show Fin _ p e below s _ _ _ T15 (mkF m 51 #[.val (.ref a), .val (.ref b), .val (.int (0 : Int32)), .val (.int (1 : Int32)), .val .null, .val (.ref d13)] [])
  refine Fin.go (fun _ k => XS.aloadN X15.here hx rfl (hb hby d3_51) rfl rfl k) ?_
  show Fin _ p e below s _ _ _ T15 (mkF m 52 #[.val (.ref a), .val (.ref b), .val (.int (0 : Int32)), .val (.int (1 : Int32)), .val .null, .val (.ref d13)] [(.ref a)])
  refine Fin.go (fun _ k => XS.aload X15.here hx rfl (hb hby d3_52) rfl rfl k) ?_
  show Fin _ p e below s _ _ _ T15 (mkF m 54 #[.val (.ref a), .val (.ref b), .val (.int (0 : Int32)), .val (.int (1 : Int32)), .val .null, .val (.ref d13)] [(.ref d13), (.ref a)])
  obtain ⟨T16, h16, X16, e16, W16, st16⟩ := putF X15 hx hZ hown (host := "") (Or.inl (hw _ w_32)) Via.refl e15 F15_a_value ((A.keep Kq13).wr W15) (Or.inr ⟨(hw _ w_33), rfl, hnm⟩) (hw _ w_6) (ty := (.array .byte)) (by decide) rfl rfl (g := (mkF m 54 #[.val (.ref a), .val (.ref b), .val (.int (0 : Int32)), .val (.int (1 : Int32)), .val .null, .val (.ref d13)] [(.ref d13), (.ref a)])) rfl rfl (hb hby d3_54)
  refine Fin.go st16 ?_
  have N16 := Fr.snoc X16 N15 na
  have O16 := O15.wr W16 na
  have K16 := K15.wr W16 (Or.inl (List.mem_of_getElem? (i := 0) rfl))
  have F16_a_coder := (((F1.keep Kq13 nin0).same W15).other W16 (Or.inr (slot_ne (Or.inr (hw _ w_31)) (Or.inr (hw _ w_33)) (by decide) (t := .byte) (t' := (.array .byte)) (by decide) (by decide))))
  have V16_d13 := (V15_d13.other W16 (Ne.symm (Nat.ne_of_lt (Nat.lt_of_lt_of_le F2.lt zd13))))
  show Fin _ p e below s _ _ _ T16 (mkF m 57 #[.val (.ref a), .val (.ref b), .val (.int (0 : Int32)), .val (.int (1 : Int32)), .val .null, .val (.ref d13)] [])
  exact Fin.leaveN X16 e16 hlk (v := none) (fun _ => rfl) (by decide) (by decide) ⟨rfl, N16, K16, (((A.keep Kq13).wr W15).wr W16), F16_a_coder, d13, kd13, (F15_a_value.same W16), V16_d13, hzd13⟩ (fun fs hr => X16.returnOut hx hret (hb hby d3_57) hr)
set_option maxRecDepth 65536 in
set_option maxHeartbeats 40000000 in
theorem rmStr1 (l : Launch) (Z : State) (a0 : Array Value) (hw : ∀ d ∈ tables_1, d.before a0 Z = true) (n0 : Nat) (h0 : Heap) (O : Old Z n0 h0) (a b : Addr) (kb : ClassId) (x1 : Int32) (cs : Int32) (S_cs : Sta Z Z.heap "java/lang/String" "COMPACT_STRINGS" "Z" (.int cs)) (hcs : ¬ cs = 0) (VB : Arv Z h0 b kb .char (1 : Int32) [(.int x1)] (.int (0 : Int32))) (A : Exa Z h0 a "java/lang/String") (F1 : Fld Z h0 a "java/lang/String" "coder" "B" (.int (0 : Int32))) (F2 : Fld Z h0 a "java/lang/String" "value" "[B" .null) (hp1 : ¬ (255 : Int32) < x1) (na : n0 ≤ a) (nba : b ≠ a) :
    ConW FrameEnd l Z [] (⟨"java/lang/String", "<init>", "([C)V"⟩ : MethodName) jdk_42_method_3_code 2 none ({ frames := 3, cells := 1, slots := 1, locals := 52 } : Room) #[(.ref a), (.ref b)] h0 (fun v h L => v = none ∧ Fr n0 L ∧ Keep h0 h [a] ∧ Exa Z h a "java/lang/String" ∧ Fld Z h a "java/lang/String" "coder" "B" (.int (0 : Int32)) ∧ ∃ d kd, Fld Z h a "java/lang/String" "value" "[B" (.ref d) ∧ Arv Z h d kd .byte (1 : Int32) [(.int ((Int32.toInt8 x1).toInt32))] (.int (0 : Int32)) ∧ h0.size ≤ d) := by
  refine conOf (plainFor_of_name pn_java_lang_String) ?_
  intro p e s m below mth cc s₁ X0 hx hby hml hown hnm hret hlk hZ e0
  have N0 := Fr.nil n0
  have K0 := Keep.refl h0 ([a] : List Addr)
  refine Fin.came (castTop (t := _) (by first | (simp [entryFrame, mkF, argsToLocals, Value.category]; done) | rfl) (Steps.refl _) : Steps p.tables e below (s₁.setTop (entryFrame m #[(.ref a), (.ref b)] 2)) (s₁.setTop (mkF m 0 #[.val (.ref a), .val (.ref b)] []))) ?_
  show Fin _ p e below s _ _ _ s₁ (mkF m 0 #[.val (.ref a), .val (.ref b)] [])
  refine Fin.go (fun _ k => XS.aloadN X0.here hx rfl (hb hby d2_0) rfl rfl k) ?_
  show Fin _ p e below s _ _ _ s₁ (mkF m 1 #[.val (.ref a), .val (.ref b)] [(.ref a)])
  refine Fin.go (fun _ k => XS.aloadN X0.here hx rfl (hb hby d2_1) rfl rfl k) ?_
  show Fin _ p e below s _ _ _ s₁ (mkF m 2 #[.val (.ref a), .val (.ref b)] [(.ref b), (.ref a)])
  refine Fin.go (fun _ k => XS.iconst X0.here hx rfl (hb hby d2_2) k) ?_
  show Fin _ p e below s _ _ _ s₁ (mkF m 3 #[.val (.ref a), .val (.ref b)] [(.int (0 : Int32)), (.ref b), (.ref a)])
  refine Fin.go (fun _ k => XS.aloadN X0.here hx rfl (hb hby d2_3) rfl rfl k) ?_
  show Fin _ p e below s _ _ _ s₁ (mkF m 4 #[.val (.ref a), .val (.ref b)] [(.ref b), (.int (0 : Int32)), (.ref b), (.ref a)])
  obtain ⟨c11, B11, q11, S11, M11, H11, G11⟩ := id VB
  refine Fin.go (fun _ k => X0.arraylength hx (by rw [e0]; exact B11.1) (State.isArrayOf_alike hZ.alike B11.2.1) (g := (mkF m 4 #[.val (.ref a), .val (.ref b)] [(.ref b), (.int (0 : Int32)), (.ref b), (.ref a)])) rfl rfl (hb hby d2_4) _ k) ?_
  rw [len_of S11 M11]
  show Fin _ p e below s _ _ _ s₁ (mkF m 5 #[.val (.ref a), .val (.ref b)] [(.int (1 : Int32)), (.int (0 : Int32)), (.ref b), (.ref a)])
  refine Fin.go (fun _ k => XS.aconstNull X0.here hx rfl (hb hby d2_5) k) ?_
  show Fin _ p e below s _ _ _ s₁ (mkF m 6 #[.val (.ref a), .val (.ref b)] [.null, (.int (1 : Int32)), (.int (0 : Int32)), (.ref b), (.ref a)])
  obtain ⟨v12, T12, L12, X12, q12, st12⟩ := callCt X0 hx hZ (y := (⟨"java/lang/String", "<init>", "([CIILjava/lang/Void;)V"⟩ : MethodName)) rfl hown (hw _ w_11) (hw _ w_12) (hw _ w_7) (hw _ w_14) (by decide) (W := 0) (rmStrV1 l Z a0 hw n0 h0 O a b kb x1 cs S_cs hcs VB A F1 F2 hp1 na nba) e0 (by decide) (by decide) (by decide) (by decide) (g := (mkF m 6 #[.val (.ref a), .val (.ref b)] [.null, (.int (1 : Int32)), (.int (0 : Int32)), (.ref b), (.ref a)])) rfl (by rw [hml]; rfl) (a := a) (argsL := [(.ref b), (.int (0 : Int32)), (.int (1 : Int32)), .null]) (rest := []) (lenOf pd_oACIILjava_lang_Void_cV rfl) rfl (by show 2 * 0 + _ ≤ _; exact Nat.le_of_eq rfl) (hb hby d2_6)
  obtain ⟨rfl, Nq12, Kq12, A12, C12, d12, kd12, F12, V12, zd12⟩ := q12
  have N12 := Fr.app N0 Nq12
  have O12 := O.keep Kq12 (allS na all0)
  have K12 := K0.trans Kq12 (allS (Or.inl (List.mem_of_getElem? (i := 0) rfl)) all0)
  refine Fin.go st12 ?_
  show Fin _ p e below s _ _ _ T12 (mkF m 9 #[.val (.ref a), .val (.ref b)] [])
  exact Fin.leaveN X12 (rfl : T12.heap = T12.heap) hlk (v := none) (fun _ => rfl) (by decide) (by decide) ⟨rfl, N12, K12, A12, C12, d12, kd12, F12, V12, zd12⟩ (fun fs hr => X12.returnOut hx hret (hb hby d2_9) hr)
set_option maxRecDepth 65536 in
set_option maxHeartbeats 40000000 in
theorem rmCmpB2 (l : Launch) (Z : State) (a0 : Array Value) (hw : ∀ d ∈ tables_1, d.before a0 Z = true) (n0 : Nat) (h0 : Heap) (O : Old Z n0 h0) (b d : Addr) (kb kd : ClassId) (x1 x2 : Int32) (VB : Arv Z h0 b kb .char (2 : Int32) [(.int x1), (.int x2)] (.int (0 : Int32))) (VD : Arv Z h0 d kd .byte (2 : Int32) [(.int (0 : Int32)), (.int (0 : Int32))] (.int (0 : Int32))) (hp1 : ¬ (255 : Int32) < x1) (hp2 : ¬ (255 : Int32) < x2) (nd : n0 ≤ d) (nbd : b ≠ d) :
    ConW FrameEnd l Z [] (⟨"java/lang/StringUTF16", "compress", "([CI[BII)I"⟩ : MethodName) jdk_52_method_21_code 7 (some .int) ({ frames := 0, cells := 0, slots := 0, locals := 0 } : Room) #[(.ref b), (.int (0 : Int32)), (.ref d), (.int (0 : Int32)), (.int (2 : Int32))] h0 (fun v h L => v = some (.int (2 : Int32)) ∧ Fr n0 L ∧ Keep h0 h [d] ∧ Arv Z h d kd .byte (2 : Int32) [(.int ((Int32.toInt8 x1).toInt32)), (.int ((Int32.toInt8 x2).toInt32))] (.int (0 : Int32))) := by
  refine conOf (plainFor_of_name pn_java_lang_StringUTF16) ?_
  intro p e s m below mth cc s₁ X0 hx hby hml hown hnm hret hlk hZ e0
  have N0 := Fr.nil n0
  have K0 := Keep.refl h0 ([d] : List Addr)
  refine Fin.came (castTop (t := _) (by first | (simp [entryFrame, mkF, argsToLocals, Value.category]; done) | rfl) (Steps.refl _) : Steps p.tables e below (s₁.setTop (entryFrame m #[(.ref b), (.int (0 : Int32)), (.ref d), (.int (0 : Int32)), (.int (2 : Int32))] 7)) (s₁.setTop (mkF m 0 #[.val (.ref b), .val (.int (0 : Int32)), .val (.ref d), .val (.int (0 : Int32)), .val (.int (2 : Int32)), .unset, .unset] []))) ?_
  show Fin _ p e below s _ _ _ s₁ (mkF m 0 #[.val (.ref b), .val (.int (0 : Int32)), .val (.ref d), .val (.int (0 : Int32)), .val (.int (2 : Int32)), .unset, .unset] [])
  refine Fin.go (fun _ k => XS.iconst X0.here hx rfl (hb hby d6_0) k) ?_
  show Fin _ p e below s _ _ _ s₁ (mkF m 1 #[.val (.ref b), .val (.int (0 : Int32)), .val (.ref d), .val (.int (0 : Int32)), .val (.int (2 : Int32)), .unset, .unset] [(.int (0 : Int32))])
  refine Fin.go (fun _ k => XS.istore X0.here hx rfl (hb hby d6_1) rfl (l' := #[.val (.ref b), .val (.int (0 : Int32)), .val (.ref d), .val (.int (0 : Int32)), .val (.int (2 : Int32)), .val (.int (0 : Int32)), .unset]) rfl k) ?_
  show Fin _ p e below s _ _ _ s₁ (mkF m 3 #[.val (.ref b), .val (.int (0 : Int32)), .val (.ref d), .val (.int (0 : Int32)), .val (.int (2 : Int32)), .val (.int (0 : Int32)), .unset] [])
  refine Fin.go (fun _ k => XS.iload X0.here hx rfl (hb hby d6_3) rfl k) ?_
  show Fin _ p e below s _ _ _ s₁ (mkF m 5 #[.val (.ref b), .val (.int (0 : Int32)), .val (.ref d), .val (.int (0 : Int32)), .val (.int (2 : Int32)), .val (.int (0 : Int32)), .unset] [(.int (0 : Int32))])
  refine Fin.go (fun _ k => XS.iload X0.here hx rfl (hb hby d6_5) rfl k) ?_
  show Fin _ p e below s _ _ _ s₁ (mkF m 7 #[.val (.ref b), .val (.int (0 : Int32)), .val (.ref d), .val (.int (0 : Int32)), .val (.int (2 : Int32)), .val (.int (0 : Int32)), .unset] [(.int (2 : Int32)), (.int (0 : Int32))])
  refine Fin.go (fun _ k => XS.icmpNo X0.here hx rfl (hb hby d6_7) rfl (XT.ii_ge_f (by decide)) k) ?_
  show Fin _ p e below s _ _ _ s₁ (mkF m 10 #[.val (.ref b), .val (.int (0 : Int32)), .val (.ref d), .val (.int (0 : Int32)), .val (.int (2 : Int32)), .val (.int (0 : Int32)), .unset] [])
  refine Fin.go (fun _ k => XS.aloadN X0.here hx rfl (hb hby d6_10) rfl rfl k) ?_
  show Fin _ p e below s _ _ _ s₁ (mkF m 11 #[.val (.ref b), .val (.int (0 : Int32)), .val (.ref d), .val (.int (0 : Int32)), .val (.int (2 : Int32)), .val (.int (0 : Int32)), .unset] [(.ref b)])
  refine Fin.go (fun _ k => XS.iloadN X0.here hx rfl (hb hby d6_11) rfl k) ?_
  show Fin _ p e below s _ _ _ s₁ (mkF m 12 #[.val (.ref b), .val (.int (0 : Int32)), .val (.ref d), .val (.int (0 : Int32)), .val (.int (2 : Int32)), .val (.int (0 : Int32)), .unset] [(.int (0 : Int32)), (.ref b)])
  obtain ⟨c11, B11, q11, S11, M11, H11, G11⟩ := id VB
  have i11 := inb_of S11 ⟨(by decide : ¬ ((0 : Int32) < (0 : Int32))), (by decide : (0 : Int32) < (2 : Int32))⟩
  refine Fin.go (fun _ k => X0.caload hx (j := (0 : Int32)) (v := (.int x1)) (by rw [e0]; exact B11.1) (State.isArrayOf_alike hZ.alike B11.2.1) B11.2.2 i11 (Has.at H11 i11 rfl) (g := (mkF m 12 #[.val (.ref b), .val (.int (0 : Int32)), .val (.ref d), .val (.int (0 : Int32)), .val (.int (2 : Int32)), .val (.int (0 : Int32)), .unset] [(.int (0 : Int32)), (.ref b)])) rfl rfl (hb hby d6_12) _ k) ?_
  show Fin _ p e below s _ _ _ s₁ (mkF m 13 #[.val (.ref b), .val (.int (0 : Int32)), .val (.ref d), .val (.int (0 : Int32)), .val (.int (2 : Int32)), .val (.int (0 : Int32)), .unset] [(.int x1)])
  refine Fin.go (fun _ k => XS.istore X0.here hx rfl (hb hby d6_13) rfl (l' := #[.val (.ref b), .val (.int (0 : Int32)), .val (.ref d), .val (.int (0 : Int32)), .val (.int (2 : Int32)), .val (.int (0 : Int32)), .val (.int x1)]) rfl k) ?_
  show Fin _ p e below s _ _ _ s₁ (mkF m 15 #[.val (.ref b), .val (.int (0 : Int32)), .val (.ref d), .val (.int (0 : Int32)), .val (.int (2 : Int32)), .val (.int (0 : Int32)), .val (.int x1)] [])
  refine Fin.go (fun _ k => XS.iload X0.here hx rfl (hb hby d6_15) rfl k) ?_
  show Fin _ p e below s _ _ _ s₁ (mkF m 17 #[.val (.ref b), .val (.int (0 : Int32)), .val (.ref d), .val (.int (0 : Int32)), .val (.int (2 : Int32)), .val (.int (0 : Int32)), .val (.int x1)] [(.int x1)])
  refine Fin.go (fun _ k => XS.sipush X0.here hx rfl (hb hby d6_17) k) ?_
  show Fin _ p e below s _ _ _ s₁ (mkF m 20 #[.val (.ref b), .val (.int (0 : Int32)), .val (.ref d), .val (.int (0 : Int32)), .val (.int (2 : Int32)), .val (.int (0 : Int32)), .val (.int x1)] [(.int (255 : Int32)), (.int x1)])
  refine Fin.go (fun _ k => XS.icmpYes X0.here hx rfl (pc0 := 20) (pc' := 26) rfl (hb hby d6_20) rfl (XT.ii_le_t hp1) (by decide) (by decide) k) ?_
  show Fin _ p e below s _ _ _ s₁ (mkF m 26 #[.val (.ref b), .val (.int (0 : Int32)), .val (.ref d), .val (.int (0 : Int32)), .val (.int (2 : Int32)), .val (.int (0 : Int32)), .val (.int x1)] [])
  refine Fin.go (fun _ k => XS.aloadN X0.here hx rfl (hb hby d6_26) rfl rfl k) ?_
  show Fin _ p e below s _ _ _ s₁ (mkF m 27 #[.val (.ref b), .val (.int (0 : Int32)), .val (.ref d), .val (.int (0 : Int32)), .val (.int (2 : Int32)), .val (.int (0 : Int32)), .val (.int x1)] [(.ref d)])
  refine Fin.go (fun _ k => XS.iloadN X0.here hx rfl (hb hby d6_27) rfl k) ?_
  show Fin _ p e below s _ _ _ s₁ (mkF m 28 #[.val (.ref b), .val (.int (0 : Int32)), .val (.ref d), .val (.int (0 : Int32)), .val (.int (2 : Int32)), .val (.int (0 : Int32)), .val (.int x1)] [(.int (0 : Int32)), (.ref d)])
  refine Fin.go (fun _ k => XS.iload X0.here hx rfl (hb hby d6_28) rfl k) ?_
  show Fin _ p e below s _ _ _ s₁ (mkF m 30 #[.val (.ref b), .val (.int (0 : Int32)), .val (.ref d), .val (.int (0 : Int32)), .val (.int (2 : Int32)), .val (.int (0 : Int32)), .val (.int x1)] [(.int x1), (.int (0 : Int32)), (.ref d)])
  refine Fin.go (fun _ k => XT.i2b X0.here hx rfl (hb hby d6_30) rfl k) ?_
  show Fin _ p e below s _ _ _ s₁ (mkF m 31 #[.val (.ref b), .val (.int (0 : Int32)), .val (.ref d), .val (.int (0 : Int32)), .val (.int (2 : Int32)), .val (.int (0 : Int32)), .val (.int x1)] [(.int ((Int32.toInt8 x1).toInt32)), (.int (0 : Int32)), (.ref d)])
  obtain ⟨c12, B12, q12, S12, M12, H12, G12⟩ := id VD
  obtain ⟨T12, h12, X12, e12, W12, st12⟩ := stB X0 hx hZ e0 B12 (j := (0 : Int32)) (inb_of S12 ⟨(by decide : ¬ ((0 : Int32) < (0 : Int32))), (by decide : (0 : Int32) < (2 : Int32))⟩) (g := (mkF m 31 #[.val (.ref b), .val (.int (0 : Int32)), .val (.ref d), .val (.int (0 : Int32)), .val (.int (2 : Int32)), .val (.int (0 : Int32)), .val (.int x1)] [(.int ((Int32.toInt8 x1).toInt32)), (.int (0 : Int32)), (.ref d)])) rfl rfl (hb hby d6_31)
  refine Fin.go st12 ?_
  have V12 : Arv Z h12 d kd .byte (2 : Int32) [(.int ((Int32.toInt8 x1).toInt32)), (.int (0 : Int32))] (.int (0 : Int32)) := (by have q : Arv Z h12 d kd .byte (2 : Int32) [(.int (nar .byte ((Int32.toInt8 x1).toInt32))), (.int (0 : Int32))] (.int (0 : Int32)) := (Arv.set B12 q12 S12 M12 H12 G12 (fits_nar_byte _) W12 0 rfl (Nat.le_of_ble_eq_true rfl)); rwa [nar_b8] at q)
  have N12 := Fr.snoc X12 N0 nd
  have O12 := O.wr W12 nd
  have K12 := K0.wr W12 (Or.inl (List.mem_of_getElem? (i := 0) rfl))
  show Fin _ p e below s _ _ _ T12 (mkF m 32 #[.val (.ref b), .val (.int (0 : Int32)), .val (.ref d), .val (.int (0 : Int32)), .val (.int (2 : Int32)), .val (.int (0 : Int32)), .val (.int x1)] [])
  refine Fin.go (fun _ k => XS.iinc X12.here hx rfl (hb hby d6_32) rfl (l' := #[.val (.ref b), .val (.int ((0 : Int32) + (1 : Int32))), .val (.ref d), .val (.int (0 : Int32)), .val (.int (2 : Int32)), .val (.int (0 : Int32)), .val (.int x1)]) rfl k) ?_
  show Fin _ p e below s _ _ _ T12 (mkF m 35 #[.val (.ref b), .val (.int ((0 : Int32) + (1 : Int32))), .val (.ref d), .val (.int (0 : Int32)), .val (.int (2 : Int32)), .val (.int (0 : Int32)), .val (.int x1)] [])
  refine Fin.go (fun _ k => XS.iinc X12.here hx rfl (hb hby d6_35) rfl (l' := #[.val (.ref b), .val (.int ((0 : Int32) + (1 : Int32))), .val (.ref d), .val (.int ((0 : Int32) + (1 : Int32))), .val (.int (2 : Int32)), .val (.int (0 : Int32)), .val (.int x1)]) rfl k) ?_
  show Fin _ p e below s _ _ _ T12 (mkF m 38 #[.val (.ref b), .val (.int ((0 : Int32) + (1 : Int32))), .val (.ref d), .val (.int ((0 : Int32) + (1 : Int32))), .val (.int (2 : Int32)), .val (.int (0 : Int32)), .val (.int x1)] [])
  refine Fin.go (fun _ k => XS.iinc X12.here hx rfl (hb hby d6_38) rfl (l' := #[.val (.ref b), .val (.int ((0 : Int32) + (1 : Int32))), .val (.ref d), .val (.int ((0 : Int32) + (1 : Int32))), .val (.int (2 : Int32)), .val (.int ((0 : Int32) + (1 : Int32))), .val (.int x1)]) rfl k) ?_
  show Fin _ p e below s _ _ _ T12 (mkF m 41 #[.val (.ref b), .val (.int ((0 : Int32) + (1 : Int32))), .val (.ref d), .val (.int ((0 : Int32) + (1 : Int32))), .val (.int (2 : Int32)), .val (.int ((0 : Int32) + (1 : Int32))), .val (.int x1)] [])
  refine Fin.go (fun _ k => XS.goto X12.here hx rfl (pc0 := 41) (pc' := 3) rfl (hb hby d6_41) (by decide) (by decide) k) ?_
  show Fin _ p e below s _ _ _ T12 (mkF m 3 #[.val (.ref b), .val (.int ((0 : Int32) + (1 : Int32))), .val (.ref d), .val (.int ((0 : Int32) + (1 : Int32))), .val (.int (2 : Int32)), .val (.int ((0 : Int32) + (1 : Int32))), .val (.int x1)] [])
  refine Fin.go (fun _ k => XS.iload X12.here hx rfl (hb hby d6_3) rfl k) ?_
  show Fin _ p e below s _ _ _ T12 (mkF m 5 #[.val (.ref b), .val (.int ((0 : Int32) + (1 : Int32))), .val (.ref d), .val (.int ((0 : Int32) + (1 : Int32))), .val (.int (2 : Int32)), .val (.int ((0 : Int32) + (1 : Int32))), .val (.int x1)] [(.int ((0 : Int32) + (1 : Int32)))])
  refine Fin.go (fun _ k => XS.iload X12.here hx rfl (hb hby d6_5) rfl k) ?_
  show Fin _ p e below s _ _ _ T12 (mkF m 7 #[.val (.ref b), .val (.int ((0 : Int32) + (1 : Int32))), .val (.ref d), .val (.int ((0 : Int32) + (1 : Int32))), .val (.int (2 : Int32)), .val (.int ((0 : Int32) + (1 : Int32))), .val (.int x1)] [(.int (2 : Int32)), (.int ((0 : Int32) + (1 : Int32)))])
  refine Fin.go (fun _ k => XS.icmpNo X12.here hx rfl (hb hby d6_7) rfl (XT.ii_ge_f (by decide)) k) ?_
  show Fin _ p e below s _ _ _ T12 (mkF m 10 #[.val (.ref b), .val (.int ((0 : Int32) + (1 : Int32))), .val (.ref d), .val (.int ((0 : Int32) + (1 : Int32))), .val (.int (2 : Int32)), .val (.int ((0 : Int32) + (1 : Int32))), .val (.int x1)] [])
  refine Fin.go (fun _ k => XS.aloadN X12.here hx rfl (hb hby d6_10) rfl rfl k) ?_
  show Fin _ p e below s _ _ _ T12 (mkF m 11 #[.val (.ref b), .val (.int ((0 : Int32) + (1 : Int32))), .val (.ref d), .val (.int ((0 : Int32) + (1 : Int32))), .val (.int (2 : Int32)), .val (.int ((0 : Int32) + (1 : Int32))), .val (.int x1)] [(.ref b)])
  refine Fin.go (fun _ k => XS.iloadN X12.here hx rfl (hb hby d6_11) rfl k) ?_
  show Fin _ p e below s _ _ _ T12 (mkF m 12 #[.val (.ref b), .val (.int ((0 : Int32) + (1 : Int32))), .val (.ref d), .val (.int ((0 : Int32) + (1 : Int32))), .val (.int (2 : Int32)), .val (.int ((0 : Int32) + (1 : Int32))), .val (.int x1)] [(.int ((0 : Int32) + (1 : Int32))), (.ref b)])
  obtain ⟨c13, B13, q13, S13, M13, H13, G13⟩ := id (VB.other W12 nbd)
  have i13 := inb_of S13 ⟨(by decide : ¬ (((0 : Int32) + (1 : Int32)) < (0 : Int32))), (by decide : ((0 : Int32) + (1 : Int32)) < (2 : Int32))⟩
  refine Fin.go (fun _ k => X12.caload hx (j := ((0 : Int32) + (1 : Int32))) (v := (.int x2)) (by rw [e12]; exact B13.1) (State.isArrayOf_alike hZ.alike B13.2.1) B13.2.2 i13 (Has.at H13 i13 rfl) (g := (mkF m 12 #[.val (.ref b), .val (.int ((0 : Int32) + (1 : Int32))), .val (.ref d), .val (.int ((0 : Int32) + (1 : Int32))), .val (.int (2 : Int32)), .val (.int ((0 : Int32) + (1 : Int32))), .val (.int x1)] [(.int ((0 : Int32) + (1 : Int32))), (.ref b)])) rfl rfl (hb hby d6_12) _ k) ?_
  show Fin _ p e below s _ _ _ T12 (mkF m 13 #[.val (.ref b), .val (.int ((0 : Int32) + (1 : Int32))), .val (.ref d), .val (.int ((0 : Int32) + (1 : Int32))), .val (.int (2 : Int32)), .val (.int ((0 : Int32) + (1 : Int32))), .val (.int x1)] [(.int x2)])
  refine Fin.go (fun _ k => XS.istore X12.here hx rfl (hb hby d6_13) rfl (l' := #[.val (.ref b), .val (.int ((0 : Int32) + (1 : Int32))), .val (.ref d), .val (.int ((0 : Int32) + (1 : Int32))), .val (.int (2 : Int32)), .val (.int ((0 : Int32) + (1 : Int32))), .val (.int x2)]) rfl k) ?_
  show Fin _ p e below s _ _ _ T12 (mkF m 15 #[.val (.ref b), .val (.int ((0 : Int32) + (1 : Int32))), .val (.ref d), .val (.int ((0 : Int32) + (1 : Int32))), .val (.int (2 : Int32)), .val (.int ((0 : Int32) + (1 : Int32))), .val (.int x2)] [])
  refine Fin.go (fun _ k => XS.iload X12.here hx rfl (hb hby d6_15) rfl k) ?_
  show Fin _ p e below s _ _ _ T12 (mkF m 17 #[.val (.ref b), .val (.int ((0 : Int32) + (1 : Int32))), .val (.ref d), .val (.int ((0 : Int32) + (1 : Int32))), .val (.int (2 : Int32)), .val (.int ((0 : Int32) + (1 : Int32))), .val (.int x2)] [(.int x2)])
  refine Fin.go (fun _ k => XS.sipush X12.here hx rfl (hb hby d6_17) k) ?_
  show Fin _ p e below s _ _ _ T12 (mkF m 20 #[.val (.ref b), .val (.int ((0 : Int32) + (1 : Int32))), .val (.ref d), .val (.int ((0 : Int32) + (1 : Int32))), .val (.int (2 : Int32)), .val (.int ((0 : Int32) + (1 : Int32))), .val (.int x2)] [(.int (255 : Int32)), (.int x2)])
  refine Fin.go (fun _ k => XS.icmpYes X12.here hx rfl (pc0 := 20) (pc' := 26) rfl (hb hby d6_20) rfl (XT.ii_le_t hp2) (by decide) (by decide) k) ?_
  show Fin _ p e below s _ _ _ T12 (mkF m 26 #[.val (.ref b), .val (.int ((0 : Int32) + (1 : Int32))), .val (.ref d), .val (.int ((0 : Int32) + (1 : Int32))), .val (.int (2 : Int32)), .val (.int ((0 : Int32) + (1 : Int32))), .val (.int x2)] [])
  refine Fin.go (fun _ k => XS.aloadN X12.here hx rfl (hb hby d6_26) rfl rfl k) ?_
  show Fin _ p e below s _ _ _ T12 (mkF m 27 #[.val (.ref b), .val (.int ((0 : Int32) + (1 : Int32))), .val (.ref d), .val (.int ((0 : Int32) + (1 : Int32))), .val (.int (2 : Int32)), .val (.int ((0 : Int32) + (1 : Int32))), .val (.int x2)] [(.ref d)])
  refine Fin.go (fun _ k => XS.iloadN X12.here hx rfl (hb hby d6_27) rfl k) ?_
  show Fin _ p e below s _ _ _ T12 (mkF m 28 #[.val (.ref b), .val (.int ((0 : Int32) + (1 : Int32))), .val (.ref d), .val (.int ((0 : Int32) + (1 : Int32))), .val (.int (2 : Int32)), .val (.int ((0 : Int32) + (1 : Int32))), .val (.int x2)] [(.int ((0 : Int32) + (1 : Int32))), (.ref d)])
  refine Fin.go (fun _ k => XS.iload X12.here hx rfl (hb hby d6_28) rfl k) ?_
  show Fin _ p e below s _ _ _ T12 (mkF m 30 #[.val (.ref b), .val (.int ((0 : Int32) + (1 : Int32))), .val (.ref d), .val (.int ((0 : Int32) + (1 : Int32))), .val (.int (2 : Int32)), .val (.int ((0 : Int32) + (1 : Int32))), .val (.int x2)] [(.int x2), (.int ((0 : Int32) + (1 : Int32))), (.ref d)])
  refine Fin.go (fun _ k => XT.i2b X12.here hx rfl (hb hby d6_30) rfl k) ?_
  show Fin _ p e below s _ _ _ T12 (mkF m 31 #[.val (.ref b), .val (.int ((0 : Int32) + (1 : Int32))), .val (.ref d), .val (.int ((0 : Int32) + (1 : Int32))), .val (.int (2 : Int32)), .val (.int ((0 : Int32) + (1 : Int32))), .val (.int x2)] [(.int ((Int32.toInt8 x2).toInt32)), (.int ((0 : Int32) + (1 : Int32))), (.ref d)])
  obtain ⟨c14, B14, q14, S14, M14, H14, G14⟩ := id V12
  obtain ⟨T14, h14, X14, e14, W14, st14⟩ := stB X12 hx hZ e12 B14 (j := ((0 : Int32) + (1 : Int32))) (inb_of S14 ⟨(by decide : ¬ (((0 : Int32) + (1 : Int32)) < (0 : Int32))), (by decide : ((0 : Int32) + (1 : Int32)) < (2 : Int32))⟩) (g := (mkF m 31 #[.val (.ref b), .val (.int ((0 : Int32) + (1 : Int32))), .val (.ref d), .val (.int ((0 : Int32) + (1 : Int32))), .val (.int (2 : Int32)), .val (.int ((0 : Int32) + (1 : Int32))), .val (.int x2)] [(.int ((Int32.toInt8 x2).toInt32)), (.int ((0 : Int32) + (1 : Int32))), (.ref d)])) rfl rfl (hb hby d6_31)
  refine Fin.go st14 ?_
  have V14 : Arv Z h14 d kd .byte (2 : Int32) [(.int ((Int32.toInt8 x1).toInt32)), (.int ((Int32.toInt8 x2).toInt32))] (.int (0 : Int32)) := (by have q : Arv Z h14 d kd .byte (2 : Int32) [(.int ((Int32.toInt8 x1).toInt32)), (.int (nar .byte ((Int32.toInt8 x2).toInt32)))] (.int (0 : Int32)) := (Arv.set B14 q14 S14 M14 H14 G14 (fits_nar_byte _) W14 1 rfl (Nat.le_of_ble_eq_true rfl)); rwa [nar_b8] at q)
  have N14 := Fr.snoc X14 N12 nd
  have O14 := O12.wr W14 nd
  have K14 := K12.wr W14 (Or.inl (List.mem_of_getElem? (i := 0) rfl))
  show Fin _ p e below s _ _ _ T14 (mkF m 32 #[.val (.ref b), .val (.int ((0 : Int32) + (1 : Int32))), .val (.ref d), .val (.int ((0 : Int32) + (1 : Int32))), .val (.int (2 : Int32)), .val (.int ((0 : Int32) + (1 : Int32))), .val (.int x2)] [])
  refine Fin.go (fun _ k => XS.iinc X14.here hx rfl (hb hby d6_32) rfl (l' := #[.val (.ref b), .val (.int (((0 : Int32) + (1 : Int32)) + (1 : Int32))), .val (.ref d), .val (.int ((0 : Int32) + (1 : Int32))), .val (.int (2 : Int32)), .val (.int ((0 : Int32) + (1 : Int32))), .val (.int x2)]) rfl k) ?_
  show Fin _ p e below s _ _ _ T14 (mkF m 35 #[.val (.ref b), .val (.int (((0 : Int32) + (1 : Int32)) + (1 : Int32))), .val (.ref d), .val (.int ((0 : Int32) + (1 : Int32))), .val (.int (2 : Int32)), .val (.int ((0 : Int32) + (1 : Int32))), .val (.int x2)] [])
  refine Fin.go (fun _ k => XS.iinc X14.here hx rfl (hb hby d6_35) rfl (l' := #[.val (.ref b), .val (.int (((0 : Int32) + (1 : Int32)) + (1 : Int32))), .val (.ref d), .val (.int (((0 : Int32) + (1 : Int32)) + (1 : Int32))), .val (.int (2 : Int32)), .val (.int ((0 : Int32) + (1 : Int32))), .val (.int x2)]) rfl k) ?_
  show Fin _ p e below s _ _ _ T14 (mkF m 38 #[.val (.ref b), .val (.int (((0 : Int32) + (1 : Int32)) + (1 : Int32))), .val (.ref d), .val (.int (((0 : Int32) + (1 : Int32)) + (1 : Int32))), .val (.int (2 : Int32)), .val (.int ((0 : Int32) + (1 : Int32))), .val (.int x2)] [])
  refine Fin.go (fun _ k => XS.iinc X14.here hx rfl (hb hby d6_38) rfl (l' := #[.val (.ref b), .val (.int (((0 : Int32) + (1 : Int32)) + (1 : Int32))), .val (.ref d), .val (.int (((0 : Int32) + (1 : Int32)) + (1 : Int32))), .val (.int (2 : Int32)), .val (.int (((0 : Int32) + (1 : Int32)) + (1 : Int32))), .val (.int x2)]) rfl k) ?_
  show Fin _ p e below s _ _ _ T14 (mkF m 41 #[.val (.ref b), .val (.int (((0 : Int32) + (1 : Int32)) + (1 : Int32))), .val (.ref d), .val (.int (((0 : Int32) + (1 : Int32)) + (1 : Int32))), .val (.int (2 : Int32)), .val (.int (((0 : Int32) + (1 : Int32)) + (1 : Int32))), .val (.int x2)] [])
  refine Fin.go (fun _ k => XS.goto X14.here hx rfl (pc0 := 41) (pc' := 3) rfl (hb hby d6_41) (by decide) (by decide) k) ?_
  show Fin _ p e below s _ _ _ T14 (mkF m 3 #[.val (.ref b), .val (.int (((0 : Int32) + (1 : Int32)) + (1 : Int32))), .val (.ref d), .val (.int (((0 : Int32) + (1 : Int32)) + (1 : Int32))), .val (.int (2 : Int32)), .val (.int (((0 : Int32) + (1 : Int32)) + (1 : Int32))), .val (.int x2)] [])
  refine Fin.go (fun _ k => XS.iload X14.here hx rfl (hb hby d6_3) rfl k) ?_
  show Fin _ p e below s _ _ _ T14 (mkF m 5 #[.val (.ref b), .val (.int (((0 : Int32) + (1 : Int32)) + (1 : Int32))), .val (.ref d), .val (.int (((0 : Int32) + (1 : Int32)) + (1 : Int32))), .val (.int (2 : Int32)), .val (.int (((0 : Int32) + (1 : Int32)) + (1 : Int32))), .val (.int x2)] [(.int (((0 : Int32) + (1 : Int32)) + (1 : Int32)))])
  refine Fin.go (fun _ k => XS.iload X14.here hx rfl (hb hby d6_5) rfl k) ?_
  show Fin _ p e below s _ _ _ T14 (mkF m 7 #[.val (.ref b), .val (.int (((0 : Int32) + (1 : Int32)) + (1 : Int32))), .val (.ref d), .val (.int (((0 : Int32) + (1 : Int32)) + (1 : Int32))), .val (.int (2 : Int32)), .val (.int (((0 : Int32) + (1 : Int32)) + (1 : Int32))), .val (.int x2)] [(.int (2 : Int32)), (.int (((0 : Int32) + (1 : Int32)) + (1 : Int32)))])
  refine Fin.go (fun _ k => XS.icmpYes X14.here hx rfl (pc0 := 7) (pc' := 44) rfl (hb hby d6_7) rfl (XT.ii_ge_t (by decide)) (by decide) (by decide) k) ?_
  show Fin _ p e below s _ _ _ T14 (mkF m 44 #[.val (.ref b), .val (.int (((0 : Int32) + (1 : Int32)) + (1 : Int32))), .val (.ref d), .val (.int (((0 : Int32) + (1 : Int32)) + (1 : Int32))), .val (.int (2 : Int32)), .val (.int (((0 : Int32) + (1 : Int32)) + (1 : Int32))), .val (.int x2)] [])
  refine Fin.go (fun _ k => XS.iload X14.here hx rfl (hb hby d6_44) rfl k) ?_
  show Fin _ p e below s _ _ _ T14 (mkF m 46 #[.val (.ref b), .val (.int (((0 : Int32) + (1 : Int32)) + (1 : Int32))), .val (.ref d), .val (.int (((0 : Int32) + (1 : Int32)) + (1 : Int32))), .val (.int (2 : Int32)), .val (.int (((0 : Int32) + (1 : Int32)) + (1 : Int32))), .val (.int x2)] [(.int (2 : Int32))])
  exact Fin.leaveN X14 e14 hlk (v := some (.int (2 : Int32))) (fun h => by rw [hret] at h; cases h) (by decide) (by decide) ⟨rfl, N14, K14, V14⟩ (fun fs hr => retI X14 hx hret (hb hby d6_46) hr)
set_option maxRecDepth 65536 in
set_option maxHeartbeats 40000000 in
theorem rmCmpA2 (l : Launch) (Z : State) (a0 : Array Value) (hw : ∀ d ∈ tables_1, d.before a0 Z = true) (n0 : Nat) (h0 : Heap) (O : Old Z n0 h0) (b : Addr) (kb : ClassId) (x1 x2 : Int32) (VB : Arv Z h0 b kb .char (2 : Int32) [(.int x1), (.int x2)] (.int (0 : Int32))) (hp1 : ¬ (255 : Int32) < x1) (hp2 : ¬ (255 : Int32) < x2) :
    ConW FrameEnd l Z [] (⟨"java/lang/StringUTF16", "compress", "([CII)[B"⟩ : MethodName) jdk_52_method_16_code 6 (some (.array .byte)) ({ frames := 1, cells := 1, slots := 2, locals := 18 } : Room) #[(.ref b), (.int (0 : Int32)), (.int (2 : Int32))] h0 (fun v h L => ∃ d kd, v = some (.ref d) ∧ Fr n0 L ∧ Keep h0 h [] ∧ Arv Z h d kd .byte (2 : Int32) [(.int ((Int32.toInt8 x1).toInt32)), (.int ((Int32.toInt8 x2).toInt32))] (.int (0 : Int32)) ∧ h0.size ≤ d) := by
  refine conOf (plainFor_of_name pn_java_lang_StringUTF16) ?_
  intro p e s m below mth cc s₁ X0 hx hby hml hown hnm hret hlk hZ e0
  have N0 := Fr.nil n0
  have K0 := Keep.refl h0 ([] : List Addr)
  refine Fin.came (castTop (t := _) (by first | (simp [entryFrame, mkF, argsToLocals, Value.category]; done) | rfl) (Steps.refl _) : Steps p.tables e below (s₁.setTop (entryFrame m #[(.ref b), (.int (0 : Int32)), (.int (2 : Int32))] 6)) (s₁.setTop (mkF m 0 #[.val (.ref b), .val (.int (0 : Int32)), .val (.int (2 : Int32)), .unset, .unset, .unset] []))) ?_
  show Fin _ p e below s _ _ _ s₁ (mkF m 0 #[.val (.ref b), .val (.int (0 : Int32)), .val (.int (2 : Int32)), .unset, .unset, .unset] [])
  refine Fin.go (fun _ k => XS.iloadN X0.here hx rfl (hb hby d5_0) rfl k) ?_
  show Fin _ p e below s _ _ _ s₁ (mkF m 1 #[.val (.ref b), .val (.int (0 : Int32)), .val (.int (2 : Int32)), .unset, .unset, .unset] [(.int (2 : Int32))])
  obtain ⟨T11, h11, k11, X11, e11, E11, A11, st11⟩ := newP X0 hx hZ (aty := .byte) (hw _ w_23) e0 (g := (mkF m 1 #[.val (.ref b), .val (.int (0 : Int32)), .val (.int (2 : Int32)), .unset, .unset, .unset] [(.int (2 : Int32))])) rfl (hb hby d5_1) rfl (by decide : ¬ ((2 : Int32) < (0 : Int32))) (cap := 2) (by decide) (by decide) (by decide) (by decide)
  obtain ⟨a11, g11⟩ : ∃ z, z = h0.size := ⟨_, rfl⟩
  rw [← g11] at A11 st11
  refine Fin.go st11 ?_
  have O11 := O.ext E11
  have K11 := K0.ext E11
  have n11 : n0 ≤ a11 := by have := O.2.1; have := O.1; omega
  have z11 : h0.size ≤ a11 := by have := K0.1; omega
  have V11 : Arv Z h11 a11 k11 .byte (2 : Int32) [(.int (0 : Int32)), (.int (0 : Int32))] (.int (0 : Int32)) := (Arv.new A11 (by decide)).pad (pad_rep [] (.int (0 : Int32)) 2)
  show Fin _ p e below s _ _ _ T11 (mkF m 3 #[.val (.ref b), .val (.int (0 : Int32)), .val (.int (2 : Int32)), .unset, .unset, .unset] [(.ref a11)])
  refine Fin.go (fun _ k => XS.astoreN X11.here hx rfl (hb hby d5_3) rfl rfl (l' := #[.val (.ref b), .val (.int (0 : Int32)), .val (.int (2 : Int32)), .val (.ref a11), .unset, .unset]) rfl k) ?_
  show Fin _ p e below s _ _ _ T11 (mkF m 4 #[.val (.ref b), .val (.int (0 : Int32)), .val (.int (2 : Int32)), .val (.ref a11), .unset, .unset] [])
  refine Fin.go (fun _ k => XS.aloadN X11.here hx rfl (hb hby d5_4) rfl rfl k) ?_
  show Fin _ p e below s _ _ _ T11 (mkF m 5 #[.val (.ref b), .val (.int (0 : Int32)), .val (.int (2 : Int32)), .val (.ref a11), .unset, .unset] [(.ref b)])
  refine Fin.go (fun _ k => XS.iloadN X11.here hx rfl (hb hby d5_5) rfl k) ?_
  show Fin _ p e below s _ _ _ T11 (mkF m 6 #[.val (.ref b), .val (.int (0 : Int32)), .val (.int (2 : Int32)), .val (.ref a11), .unset, .unset] [(.int (0 : Int32)), (.ref b)])
  refine Fin.go (fun _ k => XS.aloadN X11.here hx rfl (hb hby d5_6) rfl rfl k) ?_
  show Fin _ p e below s _ _ _ T11 (mkF m 7 #[.val (.ref b), .val (.int (0 : Int32)), .val (.int (2 : Int32)), .val (.ref a11), .unset, .unset] [(.ref a11), (.int (0 : Int32)), (.ref b)])
  refine Fin.go (fun _ k => XS.iconst X11.here hx rfl (hb hby d5_7) k) ?_
  show Fin _ p e below s _ _ _ T11 (mkF m 8 #[.val (.ref b), .val (.int (0 : Int32)), .val (.int (2 : Int32)), .val (.ref a11), .unset, .unset] [(.int (0 : Int32)), (.ref a11), (.int (0 : Int32)), (.ref b)])
  refine Fin.go (fun _ k => XS.iloadN X11.here hx rfl (hb hby d5_8) rfl k) ?_
  show Fin _ p e below s _ _ _ T11 (mkF m 9 #[.val (.ref b), .val (.int (0 : Int32)), .val (.int (2 : Int32)), .val (.ref a11), .unset, .unset] [(.int (2 : Int32)), (.int (0 : Int32)), (.ref a11), (.int (0 : Int32)), (.ref b)])
  obtain ⟨v12, T12, L12, X12, q12, st12⟩ := callSt X11 hx hZ (y := (⟨"java/lang/StringUTF16", "compress", "([CI[BII)I"⟩ : MethodName)) hown (hw _ w_24) (hw _ w_25) (hw _ w_21) (hw _ w_26) (by decide) (W := 0) (rmCmpB2 l Z a0 hw n0 h11 O11 b a11 kb k11 x1 x2 (VB.ext E11) V11 hp1 hp2 n11 (Nat.ne_of_lt (Nat.lt_of_lt_of_eq VB.lt g11.symm))) e11 (by decide) (by decide) (by decide) (by decide) (g := (mkF m 9 #[.val (.ref b), .val (.int (0 : Int32)), .val (.int (2 : Int32)), .val (.ref a11), .unset, .unset] [(.int (2 : Int32)), (.int (0 : Int32)), (.ref a11), (.int (0 : Int32)), (.ref b)])) rfl (by rw [hml]; rfl) (argsL := [(.ref b), (.int (0 : Int32)), (.ref a11), (.int (0 : Int32)), (.int (2 : Int32))]) (rest := []) (lenOf pd_oACIABIIcI rfl) rfl (by show 2 * 0 + _ ≤ _; exact Nat.le_of_eq rfl) (hb hby d5_9)
  obtain ⟨rfl, Nq12, Kq12, V12⟩ := q12
  have N12 := Fr.app N0 Nq12
  have O12 := O11.keep Kq12 (allS n11 all0)
  have K12 := K11.trans Kq12 (allS (Or.inr z11) all0)
  refine Fin.go st12 ?_
  have V12_b := ((VB.ext E11).keep Kq12 (ninS (Nat.ne_of_lt (Nat.lt_of_lt_of_eq VB.lt g11.symm)) nin0))
  show Fin _ p e below s _ _ _ T12 (mkF m 12 #[.val (.ref b), .val (.int (0 : Int32)), .val (.int (2 : Int32)), .val (.ref a11), .unset, .unset] [(.int (2 : Int32))])
  refine Fin.go (fun _ k => XS.istore X12.here hx rfl (hb hby d5_12) rfl (l' := #[.val (.ref b), .val (.int (0 : Int32)), .val (.int (2 : Int32)), .val (.ref a11), .val (.int (2 : Int32)), .unset]) rfl k) ?_
  show Fin _ p e below s _ _ _ T12 (mkF m 14 #[.val (.ref b), .val (.int (0 : Int32)), .val (.int (2 : Int32)), .val (.ref a11), .val (.int (2 : Int32)), .unset] [])
  refine Fin.go (fun _ k => XS.iload X12.here hx rfl (hb hby d5_14) rfl k) ?_
  show Fin _ p e below s _ _ _ T12 (mkF m 16 #[.val (.ref b), .val (.int (0 : Int32)), .val (.int (2 : Int32)), .val (.ref a11), .val (.int (2 : Int32)), .unset] [(.int (2 : Int32))])
  refine Fin.go (fun _ k => XS.iloadN X12.here hx rfl (hb hby d5_16) rfl k) ?_
  show Fin _ p e below s _ _ _ T12 (mkF m 17 #[.val (.ref b), .val (.int (0 : Int32)), .val (.int (2 : Int32)), .val (.ref a11), .val (.int (2 : Int32)), .unset] [(.int (2 : Int32)), (.int (2 : Int32))])
  refine Fin.go (fun _ k => XS.icmpYes X12.here hx rfl (pc0 := 17) (pc' := 57) rfl (hb hby d5_17) rfl (XT.ii_eq_t (by decide)) (by decide) (by decide) k) ?_
  show Fin _ p e below s _ _ _ T12 (mkF m 57 #[.val (.ref b), .val (.int (0 : Int32)), .val (.int (2 : Int32)), .val (.ref a11), .val (.int (2 : Int32)), .unset] [])
  refine Fin.go (fun _ k => XS.aloadN X12.here hx rfl (hb hby d5_57) rfl rfl k) ?_
  show Fin _ p e below s _ _ _ T12 (mkF m 58 #[.val (.ref b), .val (.int (0 : Int32)), .val (.int (2 : Int32)), .val (.ref a11), .val (.int (2 : Int32)), .unset] [(.ref a11)])
  exact Fin.leaveN X12 (rfl : T12.heap = T12.heap) hlk (v := some (.ref a11)) (fun h => by rw [hret] at h; cases h) (by decide) (by decide) ⟨a11, k11, rfl, N12, K12, V12, z11⟩ (fun fs hr => retOut X12 hx hret rfl (Or.inr (Or.inr (Or.inr (Or.inr ⟨rfl, rfl, rfl⟩)))) (hb hby d5_58) hr)
set_option maxRecDepth 65536 in
set_option maxHeartbeats 40000000 in
theorem rmCod2 (l : Launch) (Z : State) (a0 : Array Value) (hw : ∀ d ∈ tables_1, d.before a0 Z = true) (n0 : Nat) (h0 : Heap) (O : Old Z n0 h0) (d : Addr) (kd : ClassId) (x1 x2 : Int32) (VD : Arv Z h0 d kd .byte (2 : Int32) [(.int x1), (.int x2)] (.int (0 : Int32))) :
    ConW FrameEnd l Z [] (⟨"java/lang/StringUTF16", "coderFromArrayLen", "([BI)B"⟩ : MethodName) jdk_52_method_15_code 2 (some .byte) ({ frames := 0, cells := 0, slots := 0, locals := 0 } : Room) #[(.ref d), (.int (2 : Int32))] h0 (Pure h0 (some (.int (0 : Int32)))) := by
  refine conOf (plainFor_of_name pn_java_lang_StringUTF16) ?_
  intro p e s m below mth cc s₁ X0 hx hby hml hown hnm hret hlk hZ e0
  have N0 := Fr.nil n0
  refine Fin.came (castTop (t := _) (by first | (simp [entryFrame, mkF, argsToLocals, Value.category]; done) | rfl) (Steps.refl _) : Steps p.tables e below (s₁.setTop (entryFrame m #[(.ref d), (.int (2 : Int32))] 2)) (s₁.setTop (mkF m 0 #[.val (.ref d), .val (.int (2 : Int32))] []))) ?_
  show Fin _ p e below s _ _ _ s₁ (mkF m 0 #[.val (.ref d), .val (.int (2 : Int32))] [])
  refine Fin.go (fun _ k => XS.iloadN X0.here hx rfl (hb hby d7_0) rfl k) ?_
  show Fin _ p e below s _ _ _ s₁ (mkF m 1 #[.val (.ref d), .val (.int (2 : Int32))] [(.int (2 : Int32))])
  refine Fin.go (fun _ k => XS.aloadN X0.here hx rfl (hb hby d7_1) rfl rfl k) ?_
  show Fin _ p e below s _ _ _ s₁ (mkF m 2 #[.val (.ref d), .val (.int (2 : Int32))] [(.ref d), (.int (2 : Int32))])
  obtain ⟨c11, B11, q11, S11, M11, H11, G11⟩ := id VD
  refine Fin.go (fun _ k => X0.arraylength hx (by rw [e0]; exact B11.1) (State.isArrayOf_alike hZ.alike B11.2.1) (g := (mkF m 2 #[.val (.ref d), .val (.int (2 : Int32))] [(.ref d), (.int (2 : Int32))])) rfl rfl (hb hby d7_2) _ k) ?_
  rw [len_of S11 M11]
  show Fin _ p e below s _ _ _ s₁ (mkF m 3 #[.val (.ref d), .val (.int (2 : Int32))] [(.int (2 : Int32)), (.int (2 : Int32))])
  refine Fin.go (fun _ k => XS.isub X0.here hx rfl (hb hby d7_3) rfl k) ?_
  show Fin _ p e below s _ _ _ s₁ (mkF m 4 #[.val (.ref d), .val (.int (2 : Int32))] [(.int ((2 : Int32) - (2 : Int32)))])
  refine Fin.go (fun _ k => XS.bipush X0.here hx rfl (hb hby d7_4) k) ?_
  show Fin _ p e below s _ _ _ s₁ (mkF m 6 #[.val (.ref d), .val (.int (2 : Int32))] [(.int (31 : Int32)), (.int ((2 : Int32) - (2 : Int32)))])
  refine Fin.go (fun _ k => XT.iushr X0.here hx rfl (hb hby d7_6) rfl k) ?_
  show Fin _ p e below s _ _ _ s₁ (mkF m 7 #[.val (.ref d), .val (.int (2 : Int32))] [(.int (XT.ushr ((2 : Int32) - (2 : Int32)) (31 : Int32)))])
  refine Fin.go (fun _ k => XT.i2b X0.here hx rfl (hb hby d7_7) rfl k) ?_
  show Fin _ p e below s _ _ _ s₁ (mkF m 8 #[.val (.ref d), .val (.int (2 : Int32))] [(.int ((Int32.toInt8 (XT.ushr ((2 : Int32) - (2 : Int32)) (31 : Int32))).toInt32))])
  exact Fin.leaveN X0 e0 hlk (v := some (.int (nar .byte ((Int32.toInt8 (XT.ushr ((2 : Int32) - (2 : Int32)) (31 : Int32))).toInt32)))) (fun h => by rw [hret] at h; cases h) (by decide) (by decide) ⟨by decide +kernel, rfl, rfl⟩ (fun fs hr => retN X0 hx (t := .byte) hret (by simp) (hb hby d7_8) hr)
set_option maxRecDepth 65536 in
set_option maxHeartbeats 40000000 in
theorem rmStrV2 (l : Launch) (Z : State) (a0 : Array Value) (hw : ∀ d ∈ tables_1, d.before a0 Z = true) (n0 : Nat) (h0 : Heap) (O : Old Z n0 h0) (a b : Addr) (kb : ClassId) (x1 x2 : Int32) (cs : Int32) (S_cs : Sta Z Z.heap "java/lang/String" "COMPACT_STRINGS" "Z" (.int cs)) (hcs : ¬ cs = 0) (VB : Arv Z h0 b kb .char (2 : Int32) [(.int x1), (.int x2)] (.int (0 : Int32))) (A : Exa Z h0 a "java/lang/String") (F1 : Fld Z h0 a "java/lang/String" "coder" "B" (.int (0 : Int32))) (F2 : Fld Z h0 a "java/lang/String" "value" "[B" .null) (hp1 : ¬ (255 : Int32) < x1) (hp2 : ¬ (255 : Int32) < x2) (na : n0 ≤ a) (nba : b ≠ a) :
    ConW FrameEnd l Z [] (⟨"java/lang/String", "<init>", "([CIILjava/lang/Void;)V"⟩ : MethodName) jdk_42_method_149_code 6 none ({ frames := 2, cells := 1, slots := 2, locals := 35 } : Room) #[(.ref a), (.ref b), (.int (0 : Int32)), (.int (2 : Int32)), .null] h0 (fun v h L => v = none ∧ Fr n0 L ∧ Keep h0 h [a] ∧ Exa Z h a "java/lang/String" ∧ Fld Z h a "java/lang/String" "coder" "B" (.int (0 : Int32)) ∧ ∃ d kd, Fld Z h a "java/lang/String" "value" "[B" (.ref d) ∧ Arv Z h d kd .byte (2 : Int32) [(.int ((Int32.toInt8 x1).toInt32)), (.int ((Int32.toInt8 x2).toInt32))] (.int (0 : Int32)) ∧ h0.size ≤ d) := by
  refine conOf (plainFor_of_name pn_java_lang_String) ?_
  intro p e s m below mth cc s₁ X0 hx hby hml hown hnm hret hlk hZ e0
  have N0 := Fr.nil n0
  have K0 := Keep.refl h0 ([a] : List Addr)
  refine Fin.came (castTop (t := _) (by first | (simp [entryFrame, mkF, argsToLocals, Value.category]; done) | rfl) (Steps.refl _) : Steps p.tables e below (s₁.setTop (entryFrame m #[(.ref a), (.ref b), (.int (0 : Int32)), (.int (2 : Int32)), .null] 6)) (s₁.setTop (mkF m 0 #[.val (.ref a), .val (.ref b), .val (.int (0 : Int32)), .val (.int (2 : Int32)), .val .null, .unset] []))) ?_
  show Fin _ p e below s _ _ _ s₁ (mkF m 0 #[.val (.ref a), .val (.ref b), .val (.int (0 : Int32)), .val (.int (2 : Int32)), .val .null, .unset] [])
  refine Fin.go (fun _ k => XS.aloadN X0.here hx rfl (hb hby d3_0) rfl rfl k) ?_
  show Fin _ p e below s _ _ _ s₁ (mkF m 1 #[.val (.ref a), .val (.ref b), .val (.int (0 : Int32)), .val (.int (2 : Int32)), .val .null, .unset] [(.ref a)])
  obtain ⟨T11, X11, e11, st11⟩ := initO X0 hx hZ hown (hw _ w_15) (hw _ w_16) (hw _ w_17) e0 (g := (mkF m 1 #[.val (.ref a), .val (.ref b), .val (.int (0 : Int32)), .val (.int (2 : Int32)), .val .null, .unset] [(.ref a)])) rfl (by rw [hml]; rfl) rfl (hb hby d3_1) (by decide) (W := 0) (by show 2 * 0 + _ ≤ _; exact Nat.le_of_eq rfl) (by decide)
  refine Fin.go st11 ?_
  show Fin _ p e below s _ _ _ T11 (mkF m 4 #[.val (.ref a), .val (.ref b), .val (.int (0 : Int32)), .val (.int (2 : Int32)), .val .null, .unset] [])
  refine Fin.go (fun _ k => XS.iloadN X11.here hx rfl (hb hby d3_4) rfl k) ?_
  show Fin _ p e below s _ _ _ T11 (mkF m 5 #[.val (.ref a), .val (.ref b), .val (.int (0 : Int32)), .val (.int (2 : Int32)), .val .null, .unset] [(.int (2 : Int32))])
  refine Fin.go (fun _ k => XS.ifYes X11.here hx rfl (pc0 := 5) (pc' := 27) rfl (hb hby d3_5) rfl (XT.i0_ne_t (by decide)) (by decide) (by decide) k) ?_
  show Fin _ p e below s _ _ _ T11 (mkF m 27 #[.val (.ref a), .val (.ref b), .val (.int (0 : Int32)), .val (.int (2 : Int32)), .val .null, .unset] [])
  obtain ⟨T12, X12, e12, st12⟩ := getS2 X11 hx hZ hown (host := "") (Or.inl (hw _ w_18)) Via.refl e11 (S_cs.ext O.2) (g := (mkF m 27 #[.val (.ref a), .val (.ref b), .val (.int (0 : Int32)), .val (.int (2 : Int32)), .val .null, .unset] [])) rfl (hb hby d3_27)
  refine Fin.go st12 ?_
  show Fin _ p e below s _ _ _ T12 (mkF m 30 #[.val (.ref a), .val (.ref b), .val (.int (0 : Int32)), .val (.int (2 : Int32)), .val .null, .unset] [(.int cs)])
  refine Fin.go (fun _ k => XS.ifNo X12.here hx rfl (hb hby d3_30) rfl (XT.i0_eq_f hcs) k) ?_
  show Fin _ p e below s _ _ _ T12 (mkF m 33 #[.val (.ref a), .val (.ref b), .val (.int (0 : Int32)), .val (.int (2 : Int32)), .val .null, .unset] [])
  refine Fin.go (fun _ k => XS.aloadN X12.here hx rfl (hb hby d3_33) rfl rfl k) ?_
  show Fin _ p e below s _ _ _ T12 (mkF m 34 #[.val (.ref a), .val (.ref b), .val (.int (0 : Int32)), .val (.int (2 : Int32)), .val .null, .unset] [(.ref b)])
  refine Fin.go (fun _ k => XS.iloadN X12.here hx rfl (hb hby d3_34) rfl k) ?_
  show Fin _ p e below s _ _ _ T12 (mkF m 35 #[.val (.ref a), .val (.ref b), .val (.int (0 : Int32)), .val (.int (2 : Int32)), .val .null, .unset] [(.int (0 : Int32)), (.ref b)])
  refine Fin.go (fun _ k => XS.iloadN X12.here hx rfl (hb hby d3_35) rfl k) ?_
  show Fin _ p e below s _ _ _ T12 (mkF m 36 #[.val (.ref a), .val (.ref b), .val (.int (0 : Int32)), .val (.int (2 : Int32)), .val .null, .unset] [(.int (2 : Int32)), (.int (0 : Int32)), (.ref b)])
  obtain ⟨v13, T13, L13, X13, q13, st13⟩ := callSt X12 hx hZ (y := (⟨"java/lang/StringUTF16", "compress", "([CII)[B"⟩ : MethodName)) hown (hw _ w_19) (hw _ w_20) (hw _ w_21) (hw _ w_22) (by decide) (W := 0) (rmCmpA2 l Z a0 hw n0 h0 O b kb x1 x2 VB hp1 hp2) e12 (by decide) (by decide) (by decide) (by decide) (g := (mkF m 36 #[.val (.ref a), .val (.ref b), .val (.int (0 : Int32)), .val (.int (2 : Int32)), .val .null, .unset] [(.int (2 : Int32)), (.int (0 : Int32)), (.ref b)])) rfl (by rw [hml]; rfl) (argsL := [(.ref b), (.int (0 : Int32)), (.int (2 : Int32))]) (rest := []) (lenOf pd_oACIIcAB rfl) rfl (by show 2 * 0 + _ ≤ _; exact Nat.le_of_eq rfl) (hb hby d3_36)
  obtain ⟨d13, kd13, rfl, Nq13, Kq13, V13, zd13⟩ := q13
  have N13 := Fr.app N0 Nq13
  have O13 := O.keep Kq13 all0
  have K13 := K0.trans Kq13 all0
  refine Fin.go st13 ?_
  show Fin _ p e below s _ _ _ T13 (mkF m 39 #[.val (.ref a), .val (.ref b), .val (.int (0 : Int32)), .val (.int (2 : Int32)), .val .null, .unset] [(.ref d13)])
  have nzd13 : n0 ≤ d13 := Nat.le_trans (by have := O.1; have := O.2.1; omega) zd13
  have hzd13 : h0.size ≤ d13 := Nat.le_trans K0.1 zd13
  refine Fin.go (fun _ k => XS.astore X13.here hx rfl (hb hby d3_39) rfl rfl (l' := #[.val (.ref a), .val (.ref b), .val (.int (0 : Int32)), .val (.int (2 : Int32)), .val .null, .val (.ref d13)]) rfl k) ?_
  show Fin _ p e below s _ _ _ T13 (mkF m 41 #[.val (.ref a), .val (.ref b), .val (.int (0 : Int32)), .val (.int (2 : Int32)), .val .null, .val (.ref d13)] [])
  refine Fin.go (fun _ k => XS.aloadN X13.here hx rfl (hb hby d3_41) rfl rfl k) ?_
  show Fin _ p e below s _ _ _ T13 (mkF m 42 #[.val (.ref a), .val (.ref b), .val (.int (0 : Int32)), .val (.int (2 : Int32)), .val .null, .val (.ref d13)] [(.ref a)])
  refine Fin.go (fun _ k => XS.aload X13.here hx rfl (hb hby d3_42) rfl rfl k) ?_
  show Fin _ p e below s _ _ _ T13 (mkF m 44 #[.val (.ref a), .val (.ref b), .val (.int (0 : Int32)), .val (.int (2 : Int32)), .val .null, .val (.ref d13)] [(.ref d13), (.ref a)])
  refine Fin.go (fun _ k => XS.iloadN X13.here hx rfl (hb hby d3_44) rfl k) ?_
  show Fin _ p e below s _ _ _ T13 (mkF m 45 #[.val (.ref a), .val (.ref b), .val (.int (0 : Int32)), .val (.int (2 : Int32)), .val .null, .val (.ref d13)] [(.int (2 : Int32)), (.ref d13), (.ref a)])
  obtain ⟨v14, T14, L14, X14, q14, st14⟩ := callSt X13 hx hZ (y := (⟨"java/lang/StringUTF16", "coderFromArrayLen", "([BI)B"⟩ : MethodName)) hown (hw _ w_27) (hw _ w_28) (hw _ w_21) (hw _ w_29) (by decide) (W := 1) (rmCod2 l Z a0 hw n0 T13.heap O13 d13 kd13 ((Int32.toInt8 x1).toInt32) ((Int32.toInt8 x2).toInt32) V13) (rfl : T13.heap = T13.heap) (by decide) (by decide) (by decide) (by decide) (g := (mkF m 45 #[.val (.ref a), .val (.ref b), .val (.int (0 : Int32)), .val (.int (2 : Int32)), .val .null, .val (.ref d13)] [(.int (2 : Int32)), (.ref d13), (.ref a)])) rfl (by rw [hml]; rfl) (argsL := [(.ref d13), (.int (2 : Int32))]) (rest := [(.ref a)]) (lenOf pd_oABIcB rfl) rfl (by show 2 * 0 + _ ≤ _; exact Nat.le_of_eq rfl) (hb hby d3_45)
  obtain ⟨rfl, e14, rfl⟩ := q14
  have N14 := Fr.app N13 (Fr.nil n0)
  refine Fin.go st14 ?_
  show Fin _ p e below s _ _ _ T14 (mkF m 48 #[.val (.ref a), .val (.ref b), .val (.int (0 : Int32)), .val (.int (2 : Int32)), .val .null, .val (.ref d13)] [(.int (0 : Int32)), (.ref a)])
  obtain ⟨T15, h15, X15, e15, W15, st15⟩ := putF X14 hx hZ hown (host := "") (Or.inl (hw _ w_30)) Via.refl e14 (F1.keep Kq13 nin0) (A.keep Kq13) (Or.inr ⟨(hw _ w_31), rfl, hnm⟩) (hw _ w_6) (ty := .byte) (by decide) rfl rfl (g := (mkF m 48 #[.val (.ref a), .val (.ref b), .val (.int (0 : Int32)), .val (.int (2 : Int32)), .val .null, .val (.ref d13)] [(.int (0 : Int32)), (.ref a)])) rfl rfl (hb hby d3_48)
  refine Fin.go st15 ?_
  have N15 := Fr.snoc X15 N14 na
  have O15 := O13.wr W15 na
  have K15 := K13.wr W15 (Or.inl (List.mem_of_getElem? (i := 0) rfl))
  have F15_a_value := ((F2.keep Kq13 nin0).other W15 (Or.inr (slot_ne (Or.inr (hw _ w_33)) (Or.inr (hw _ w_31)) (by decide) (t := (.array .byte)) (t' := .byte) (by decide) (by decide))))
  have V15_d13 := (V13.other W15 (Ne.symm (Nat.ne_of_lt (Nat.lt_of_lt_of_le F2.lt zd13))))
  show Fin _ p e below s _ _ _ T15 (mkF m 51 #[.val (.ref a), .val (.ref b), .val (.int (0 : Int32)), .val (.int (2 : Int32)), .val .null, .val (.ref d13)] [])
  refine Fin.go (fun _ k => XS.aloadN X15.here hx rfl (hb hby d3_51) rfl rfl k) ?_
  show Fin _ p e below s _ _ _ T15 (mkF m 52 #[.val (.ref a), .val (.ref b), .val (.int (0 : Int32)), .val (.int (2 : Int32)), .val .null, .val (.ref d13)] [(.ref a)])
  refine Fin.go (fun _ k => XS.aload X15.here hx rfl (hb hby d3_52) rfl rfl k) ?_
  show Fin _ p e below s _ _ _ T15 (mkF m 54 #[.val (.ref a), .val (.ref b), .val (.int (0 : Int32)), .val (.int (2 : Int32)), .val .null, .val (.ref d13)] [(.ref d13), (.ref a)])
  obtain ⟨T16, h16, X16, e16, W16, st16⟩ := putF X15 hx hZ hown (host := "") (Or.inl (hw _ w_32)) Via.refl e15 F15_a_value ((A.keep Kq13).wr W15) (Or.inr ⟨(hw _ w_33), rfl, hnm⟩) (hw _ w_6) (ty := (.array .byte)) (by decide) rfl rfl (g := (mkF m 54 #[.val (.ref a), .val (.ref b), .val (.int (0 : Int32)), .val (.int (2 : Int32)), .val .null, .val (.ref d13)] [(.ref d13), (.ref a)])) rfl rfl (hb hby d3_54)
  refine Fin.go st16 ?_
  have N16 := Fr.snoc X16 N15 na
  have O16 := O15.wr W16 na
  have K16 := K15.wr W16 (Or.inl (List.mem_of_getElem? (i := 0) rfl))
  have F16_a_coder := (((F1.keep Kq13 nin0).same W15).other W16 (Or.inr (slot_ne (Or.inr (hw _ w_31)) (Or.inr (hw _ w_33)) (by decide) (t := .byte) (t' := (.array .byte)) (by decide) (by decide))))
  have V16_d13 := (V15_d13.other W16 (Ne.symm (Nat.ne_of_lt (Nat.lt_of_lt_of_le F2.lt zd13))))
  show Fin _ p e below s _ _ _ T16 (mkF m 57 #[.val (.ref a), .val (.ref b), .val (.int (0 : Int32)), .val (.int (2 : Int32)), .val .null, .val (.ref d13)] [])
  exact Fin.leaveN X16 e16 hlk (v := none) (fun _ => rfl) (by decide) (by decide) ⟨rfl, N16, K16, (((A.keep Kq13).wr W15).wr W16), F16_a_coder, d13, kd13, (F15_a_value.same W16), V16_d13, hzd13⟩ (fun fs hr => X16.returnOut hx hret (hb hby d3_57) hr)
set_option maxRecDepth 65536 in
set_option maxHeartbeats 40000000 in
theorem rmStr2 (l : Launch) (Z : State) (a0 : Array Value) (hw : ∀ d ∈ tables_1, d.before a0 Z = true) (n0 : Nat) (h0 : Heap) (O : Old Z n0 h0) (a b : Addr) (kb : ClassId) (x1 x2 : Int32) (cs : Int32) (S_cs : Sta Z Z.heap "java/lang/String" "COMPACT_STRINGS" "Z" (.int cs)) (hcs : ¬ cs = 0) (VB : Arv Z h0 b kb .char (2 : Int32) [(.int x1), (.int x2)] (.int (0 : Int32))) (A : Exa Z h0 a "java/lang/String") (F1 : Fld Z h0 a "java/lang/String" "coder" "B" (.int (0 : Int32))) (F2 : Fld Z h0 a "java/lang/String" "value" "[B" .null) (hp1 : ¬ (255 : Int32) < x1) (hp2 : ¬ (255 : Int32) < x2) (na : n0 ≤ a) (nba : b ≠ a) :
    ConW FrameEnd l Z [] (⟨"java/lang/String", "<init>", "([C)V"⟩ : MethodName) jdk_42_method_3_code 2 none ({ frames := 3, cells := 1, slots := 2, locals := 52 } : Room) #[(.ref a), (.ref b)] h0 (fun v h L => v = none ∧ Fr n0 L ∧ Keep h0 h [a] ∧ Exa Z h a "java/lang/String" ∧ Fld Z h a "java/lang/String" "coder" "B" (.int (0 : Int32)) ∧ ∃ d kd, Fld Z h a "java/lang/String" "value" "[B" (.ref d) ∧ Arv Z h d kd .byte (2 : Int32) [(.int ((Int32.toInt8 x1).toInt32)), (.int ((Int32.toInt8 x2).toInt32))] (.int (0 : Int32)) ∧ h0.size ≤ d) := by
  refine conOf (plainFor_of_name pn_java_lang_String) ?_
  intro p e s m below mth cc s₁ X0 hx hby hml hown hnm hret hlk hZ e0
  have N0 := Fr.nil n0
  have K0 := Keep.refl h0 ([a] : List Addr)
  refine Fin.came (castTop (t := _) (by first | (simp [entryFrame, mkF, argsToLocals, Value.category]; done) | rfl) (Steps.refl _) : Steps p.tables e below (s₁.setTop (entryFrame m #[(.ref a), (.ref b)] 2)) (s₁.setTop (mkF m 0 #[.val (.ref a), .val (.ref b)] []))) ?_
  show Fin _ p e below s _ _ _ s₁ (mkF m 0 #[.val (.ref a), .val (.ref b)] [])
  refine Fin.go (fun _ k => XS.aloadN X0.here hx rfl (hb hby d2_0) rfl rfl k) ?_
  show Fin _ p e below s _ _ _ s₁ (mkF m 1 #[.val (.ref a), .val (.ref b)] [(.ref a)])
  refine Fin.go (fun _ k => XS.aloadN X0.here hx rfl (hb hby d2_1) rfl rfl k) ?_
  show Fin _ p e below s _ _ _ s₁ (mkF m 2 #[.val (.ref a), .val (.ref b)] [(.ref b), (.ref a)])
  refine Fin.go (fun _ k => XS.iconst X0.here hx rfl (hb hby d2_2) k) ?_
  show Fin _ p e below s _ _ _ s₁ (mkF m 3 #[.val (.ref a), .val (.ref b)] [(.int (0 : Int32)), (.ref b), (.ref a)])
  refine Fin.go (fun _ k => XS.aloadN X0.here hx rfl (hb hby d2_3) rfl rfl k) ?_
  show Fin _ p e below s _ _ _ s₁ (mkF m 4 #[.val (.ref a), .val (.ref b)] [(.ref b), (.int (0 : Int32)), (.ref b), (.ref a)])
  obtain ⟨c11, B11, q11, S11, M11, H11, G11⟩ := id VB
  refine Fin.go (fun _ k => X0.arraylength hx (by rw [e0]; exact B11.1) (State.isArrayOf_alike hZ.alike B11.2.1) (g := (mkF m 4 #[.val (.ref a), .val (.ref b)] [(.ref b), (.int (0 : Int32)), (.ref b), (.ref a)])) rfl rfl (hb hby d2_4) _ k) ?_
  rw [len_of S11 M11]
  show Fin _ p e below s _ _ _ s₁ (mkF m 5 #[.val (.ref a), .val (.ref b)] [(.int (2 : Int32)), (.int (0 : Int32)), (.ref b), (.ref a)])
  refine Fin.go (fun _ k => XS.aconstNull X0.here hx rfl (hb hby d2_5) k) ?_
  show Fin _ p e below s _ _ _ s₁ (mkF m 6 #[.val (.ref a), .val (.ref b)] [.null, (.int (2 : Int32)), (.int (0 : Int32)), (.ref b), (.ref a)])
  obtain ⟨v12, T12, L12, X12, q12, st12⟩ := callCt X0 hx hZ (y := (⟨"java/lang/String", "<init>", "([CIILjava/lang/Void;)V"⟩ : MethodName)) rfl hown (hw _ w_11) (hw _ w_12) (hw _ w_7) (hw _ w_14) (by decide) (W := 0) (rmStrV2 l Z a0 hw n0 h0 O a b kb x1 x2 cs S_cs hcs VB A F1 F2 hp1 hp2 na nba) e0 (by decide) (by decide) (by decide) (by decide) (g := (mkF m 6 #[.val (.ref a), .val (.ref b)] [.null, (.int (2 : Int32)), (.int (0 : Int32)), (.ref b), (.ref a)])) rfl (by rw [hml]; rfl) (a := a) (argsL := [(.ref b), (.int (0 : Int32)), (.int (2 : Int32)), .null]) (rest := []) (lenOf pd_oACIILjava_lang_Void_cV rfl) rfl (by show 2 * 0 + _ ≤ _; exact Nat.le_of_eq rfl) (hb hby d2_6)
  obtain ⟨rfl, Nq12, Kq12, A12, C12, d12, kd12, F12, V12, zd12⟩ := q12
  have N12 := Fr.app N0 Nq12
  have O12 := O.keep Kq12 (allS na all0)
  have K12 := K0.trans Kq12 (allS (Or.inl (List.mem_of_getElem? (i := 0) rfl)) all0)
  refine Fin.go st12 ?_
  show Fin _ p e below s _ _ _ T12 (mkF m 9 #[.val (.ref a), .val (.ref b)] [])
  exact Fin.leaveN X12 (rfl : T12.heap = T12.heap) hlk (v := none) (fun _ => rfl) (by decide) (by decide) ⟨rfl, N12, K12, A12, C12, d12, kd12, F12, V12, zd12⟩ (fun fs hr => X12.returnOut hx hret (hb hby d2_9) hr)
set_option maxRecDepth 65536 in
set_option maxHeartbeats 40000000 in
theorem rmStrV0 (l : Launch) (Z : State) (a0 : Array Value) (hw : ∀ d ∈ tables_1, d.before a0 Z = true) (n0 : Nat) (h0 : Heap) (O : Old Z n0 h0) (a b : Addr) (kb : ClassId) (VB : Arv Z h0 b kb .char (0 : Int32) [] (.int (0 : Int32))) (A : Exa Z h0 a "java/lang/String") (F1 : Fld Z h0 a "java/lang/String" "coder" "B" (.int (0 : Int32))) (F2 : Fld Z h0 a "java/lang/String" "value" "[B" .null) (na : n0 ≤ a) :
    ConHW l Z EL [] (⟨"java/lang/String", "<init>", "([CIILjava/lang/Void;)V"⟩ : MethodName) jdk_42_method_149_code 6 none ({ frames := 1, cells := 4, slots := 8, locals := 12 } : Room) #[(.ref a), (.ref b), (.int (0 : Int32)), (.int (0 : Int32)), .null] h0 (fun v h L => v = none ∧ Fr n0 L ∧ Keep h0 h [a] ∧ Exa Z h a "java/lang/String" ∧ Fld Z h a "java/lang/String" "coder" "B" (.int (0 : Int32)) ∧ ∃ d kd, Fld Z h a "java/lang/String" "value" "[B" (.ref d) ∧ Arv Z h d kd .byte (0 : Int32) [] (.int (0 : Int32))) := by
  refine conOfH (plainFor_of_name pn_java_lang_String) ?_
  intro p e s m below mth cc s₁ X0 hx hby hml hown hnm hret hlk hZ e0 hS RR0
  have N0 := Fr.nil n0
  have hEL := elW hw
  have K0 := Keep.refl h0 ([a] : List Addr)
  have sfa := safe_of_null (EL := EL) hZ.alike A F2
  refine Fin.came (castTop (t := _) (by first | (simp [entryFrame, mkF, argsToLocals, Value.category]; done) | rfl) (Steps.refl _) : Steps p.tables e below (s₁.setTop (entryFrame m #[(.ref a), (.ref b), (.int (0 : Int32)), (.int (0 : Int32)), .null] 6)) (s₁.setTop (mkF m 0 #[.val (.ref a), .val (.ref b), .val (.int (0 : Int32)), .val (.int (0 : Int32)), .val .null, .unset] []))) ?_
  show Fin _ p e below s _ _ _ s₁ (mkF m 0 #[.val (.ref a), .val (.ref b), .val (.int (0 : Int32)), .val (.int (0 : Int32)), .val .null, .unset] [])
  refine Fin.go (fun _ k => XS.aloadN X0.here hx rfl (hb hby d3_0) rfl rfl k) ?_
  show Fin _ p e below s _ _ _ s₁ (mkF m 1 #[.val (.ref a), .val (.ref b), .val (.int (0 : Int32)), .val (.int (0 : Int32)), .val .null, .unset] [(.ref a)])
  obtain ⟨T11, X11, e11, st11⟩ := initO X0 hx hZ hown (hw _ w_15) (hw _ w_16) (hw _ w_17) e0 (g := (mkF m 1 #[.val (.ref a), .val (.ref b), .val (.int (0 : Int32)), .val (.int (0 : Int32)), .val .null, .unset] [(.ref a)])) rfl (by rw [hml]; rfl) rfl (hb hby d3_1) (by decide) (W := 0) (by show 2 * 0 + _ ≤ _; exact Nat.le_of_eq rfl) (by decide)
  refine Fin.go st11 ?_
  show Fin _ p e below s _ _ _ T11 (mkF m 4 #[.val (.ref a), .val (.ref b), .val (.int (0 : Int32)), .val (.int (0 : Int32)), .val .null, .unset] [])
  refine Fin.go (fun _ k => XS.iloadN X11.here hx rfl (hb hby d3_4) rfl k) ?_
  show Fin _ p e below s _ _ _ T11 (mkF m 5 #[.val (.ref a), .val (.ref b), .val (.int (0 : Int32)), .val (.int (0 : Int32)), .val .null, .unset] [(.int (0 : Int32))])
  refine Fin.go (fun _ k => XS.ifNo X11.here hx rfl (hb hby d3_5) rfl (XT.i0_ne_f (by decide)) k) ?_
  show Fin _ p e below s _ _ _ T11 (mkF m 8 #[.val (.ref a), .val (.ref b), .val (.int (0 : Int32)), .val (.int (0 : Int32)), .val .null, .unset] [])
  refine Fin.go (fun _ k => XS.aloadN X11.here hx rfl (hb hby d3_8) rfl rfl k) ?_
  show Fin _ p e below s _ _ _ T11 (mkF m 9 #[.val (.ref a), .val (.ref b), .val (.int (0 : Int32)), .val (.int (0 : Int32)), .val .null, .unset] [(.ref a)])
  obtain ⟨a12, T12, h12, k12, b12, kb12, X12, e12, E12, hS12, hj12, hZ12, hown12, A12, C12, F12, V12, l112, l212, RC12, lt12, ns12, st12⟩ := ldcCH X11 hx hZ hown (hw _ w_34) (strW hw) e11 hS (Nat.zero_le _) hEL (by decide) RR0.1 (vs := []) (z := (0 : Int32)) (by decide +kernel) (by decide) (by decide) (g := (mkF m 9 #[.val (.ref a), .val (.ref b), .val (.int (0 : Int32)), .val (.int (0 : Int32)), .val .null, .unset] [(.ref a)])) rfl (hb hby d3_9) (n := 0) (by decide) (by decide) (by decide) (by decide)
  refine Fin.go st12 ?_
  have O12 := O.ext E12
  have K12 := K0.ext E12
  have RR12 := RR0.trans RC12
  show Fin _ p e below s _ _ _ T12 (mkF m 11 #[.val (.ref a), .val (.ref b), .val (.int (0 : Int32)), .val (.int (0 : Int32)), .val .null, .unset] [(.ref a12), (.ref a)])
  obtain ⟨T13, X13, e13, st13⟩ := getF X12 hx hZ12 hown12 (host := "") (Or.inl (hw _ w_32)) Via.refl e12 F12 (g := (mkF m 11 #[.val (.ref a), .val (.ref b), .val (.int (0 : Int32)), .val (.int (0 : Int32)), .val .null, .unset] [(.ref a12), (.ref a)])) rfl rfl (hb hby d3_11)
  refine Fin.go st13 ?_
  show Fin _ p e below s _ _ _ T13 (mkF m 14 #[.val (.ref a), .val (.ref b), .val (.int (0 : Int32)), .val (.int (0 : Int32)), .val .null, .unset] [(.ref b12), (.ref a)])
  obtain ⟨T14, h14, X14, e14, W14, st14⟩ := putF X13 hx hZ12 hown12 (host := "") (Or.inl (hw _ w_32)) Via.refl e13 (F2.ext E12) (A.ext E12) (Or.inr ⟨(hw _ w_33), rfl, hnm⟩) (hw _ w_6) (ty := (.array .byte)) (by decide) rfl rfl (g := (mkF m 14 #[.val (.ref a), .val (.ref b), .val (.int (0 : Int32)), .val (.int (0 : Int32)), .val .null, .unset] [(.ref b12), (.ref a)])) rfl rfl (hb hby d3_14)
  refine Fin.go st14 ?_
  have N14 := Fr.snoc X14 N0 na
  have O14 := O12.wr W14 na
  have K14 := K12.wr W14 (Or.inl (List.mem_of_getElem? (i := 0) rfl))
  have hk14 := Nat.le_trans hj12 (Keep.of_wr W14).1
  have RR14 := RR12.trans (CHr.wr W14 (CHr.safe RC12 A.lt sfa) RR12.1)
  have F14_a_coder := ((F1.ext E12).other W14 (Or.inr (slot_ne (Or.inr (hw _ w_31)) (Or.inr (hw _ w_33)) (by decide) (t := .byte) (t' := (.array .byte)) (by decide) (by decide))))
  have sf14_a := (Safe.wr W14 (CHr.safe RC12 A.lt sfa) RR12.1 (CHr.safe RC12 A.lt sfa))
  have F14_a12_coder := (C12.other W14 (Or.inl (Ne.symm (ns12 _ (CHr.safe RC12 A.lt sfa)).1)))
  have F14_a12_value := (F12.other W14 (Or.inl (Ne.symm (ns12 _ (CHr.safe RC12 A.lt sfa)).1)))
  have V14_b12 := (V12.other W14 (Ne.symm (ns12 _ (CHr.safe RC12 A.lt sfa)).2))
  show Fin _ p e below s _ _ _ T14 (mkF m 17 #[.val (.ref a), .val (.ref b), .val (.int (0 : Int32)), .val (.int (0 : Int32)), .val .null, .unset] [])
  refine Fin.go (fun _ k => XS.aloadN X14.here hx rfl (hb hby d3_17) rfl rfl k) ?_
  show Fin _ p e below s _ _ _ T14 (mkF m 18 #[.val (.ref a), .val (.ref b), .val (.int (0 : Int32)), .val (.int (0 : Int32)), .val .null, .unset] [(.ref a)])
  obtain ⟨a15, T15, h15, k15, b15, kb15, X15, e15, E15, hS15, hj15, hZ15, hown15, A15, C15, F15, V15, l115, l215, RC15, lt15, ns15, st15⟩ := ldcCH X14 hx hZ12 hown12 (hw _ w_34) (strW hw) e14 hS12 hk14 hEL (by decide) RR14.1 (vs := []) (z := (0 : Int32)) (by decide +kernel) (by decide) (by decide) (g := (mkF m 18 #[.val (.ref a), .val (.ref b), .val (.int (0 : Int32)), .val (.int (0 : Int32)), .val .null, .unset] [(.ref a)])) rfl (hb hby d3_18) (n := 0) (by decide) (by decide) (by decide) (by decide)
  refine Fin.go st15 ?_
  have O15 := O14.ext E15
  have K15 := K14.ext E15
  have RR15 := RR14.trans RC15
  show Fin _ p e below s _ _ _ T15 (mkF m 20 #[.val (.ref a), .val (.ref b), .val (.int (0 : Int32)), .val (.int (0 : Int32)), .val .null, .unset] [(.ref a15), (.ref a)])
  obtain ⟨T16, X16, e16, st16⟩ := getF X15 hx hZ15 hown15 (host := "") (Or.inl (hw _ w_30)) Via.refl e15 C15 (g := (mkF m 20 #[.val (.ref a), .val (.ref b), .val (.int (0 : Int32)), .val (.int (0 : Int32)), .val .null, .unset] [(.ref a15), (.ref a)])) rfl rfl (hb hby d3_20)
  refine Fin.go st16 ?_
  show Fin _ p e below s _ _ _ T16 (mkF m 23 #[.val (.ref a), .val (.ref b), .val (.int (0 : Int32)), .val (.int (0 : Int32)), .val .null, .unset] [(.int (0 : Int32)), (.ref a)])
  obtain ⟨T17, h17, X17, e17, W17, st17⟩ := putF X16 hx hZ15 hown15 (host := "") (Or.inl (hw _ w_30)) Via.refl e16 (F14_a_coder.ext E15) (((A.ext E12).wr W14).ext E15) (Or.inr ⟨(hw _ w_31), rfl, hnm⟩) (hw _ w_6) (ty := .byte) (by decide) rfl rfl (g := (mkF m 23 #[.val (.ref a), .val (.ref b), .val (.int (0 : Int32)), .val (.int (0 : Int32)), .val .null, .unset] [(.int (0 : Int32)), (.ref a)])) rfl rfl (hb hby d3_23)
  refine Fin.go st17 ?_
  have N17 := Fr.snoc X17 N14 na
  have O17 := O15.wr W17 na
  have K17 := K15.wr W17 (Or.inl (List.mem_of_getElem? (i := 0) rfl))
  have hk17 := Nat.le_trans hj15 (Keep.of_wr W17).1
  have RR17 := RR15.trans (CHr.wr W17 (CHr.safe RC15 ((A.ext E12).wr W14).lt sf14_a) RR15.1)
  have F17_a_value := ((((F2.ext E12).same W14).ext E15).other W17 (Or.inr (slot_ne (Or.inr (hw _ w_33)) (Or.inr (hw _ w_31)) (by decide) (t := (.array .byte)) (t' := .byte) (by decide) (by decide))))
  have sf17_a := (Safe.wr W17 (CHr.safe RC15 ((A.ext E12).wr W14).lt sf14_a) RR15.1 (CHr.safe RC15 ((A.ext E12).wr W14).lt sf14_a))
  have F17_a12_coder := ((F14_a12_coder.ext E15).other W17 (Or.inl (Ne.symm (ns12 _ (CHr.safe RC12 A.lt sfa)).1)))
  have F17_a12_value := ((F14_a12_value.ext E15).other W17 (Or.inl (Ne.symm (ns12 _ (CHr.safe RC12 A.lt sfa)).1)))
  have V17_b12 := ((V14_b12.ext E15).other W17 (Ne.symm (ns12 _ (CHr.safe RC12 A.lt sfa)).2))
  have F17_a15_coder := (C15.other W17 (Or.inl (Ne.symm (ns15 _ (CHr.safe RC15 ((A.ext E12).wr W14).lt sf14_a)).1)))
  have F17_a15_value := (F15.other W17 (Or.inl (Ne.symm (ns15 _ (CHr.safe RC15 ((A.ext E12).wr W14).lt sf14_a)).1)))
  have V17_b15 := (V15.other W17 (Ne.symm (ns15 _ (CHr.safe RC15 ((A.ext E12).wr W14).lt sf14_a)).2))
  show Fin _ p e below s _ _ _ T17 (mkF m 26 #[.val (.ref a), .val (.ref b), .val (.int (0 : Int32)), .val (.int (0 : Int32)), .val .null, .unset] [])
  exact Fin.leaveH X17 hS15 hk17 hZ15 hEL e17 RR17 hlk (v := none) (fun _ => rfl) (by decide) (by decide) ⟨rfl, N17, K17, ((((A.ext E12).wr W14).ext E15).wr W17), ((F14_a_coder.ext E15).same W17), b12, kb12, F17_a_value, V17_b12⟩ (fun fs hr => X17.returnOut hx hret (hb hby d3_26) hr)
set_option maxRecDepth 65536 in
set_option maxHeartbeats 40000000 in
theorem rmStr0 (l : Launch) (Z : State) (a0 : Array Value) (hw : ∀ d ∈ tables_1, d.before a0 Z = true) (n0 : Nat) (h0 : Heap) (O : Old Z n0 h0) (a b : Addr) (kb : ClassId) (VB : Arv Z h0 b kb .char (0 : Int32) [] (.int (0 : Int32))) (A : Exa Z h0 a "java/lang/String") (F1 : Fld Z h0 a "java/lang/String" "coder" "B" (.int (0 : Int32))) (F2 : Fld Z h0 a "java/lang/String" "value" "[B" .null) (na : n0 ≤ a) :
    ConHW l Z EL [] (⟨"java/lang/String", "<init>", "([C)V"⟩ : MethodName) jdk_42_method_3_code 2 none ({ frames := 2, cells := 4, slots := 8, locals := 29 } : Room) #[(.ref a), (.ref b)] h0 (fun v h L => v = none ∧ Fr n0 L ∧ Keep h0 h [a] ∧ Exa Z h a "java/lang/String" ∧ Fld Z h a "java/lang/String" "coder" "B" (.int (0 : Int32)) ∧ ∃ d kd, Fld Z h a "java/lang/String" "value" "[B" (.ref d) ∧ Arv Z h d kd .byte (0 : Int32) [] (.int (0 : Int32))) := by
  refine conOfH (plainFor_of_name pn_java_lang_String) ?_
  intro p e s m below mth cc s₁ X0 hx hby hml hown hnm hret hlk hZ e0 hS RR0
  have N0 := Fr.nil n0
  have hEL := elW hw
  have K0 := Keep.refl h0 ([a] : List Addr)
  have sfa := safe_of_null (EL := EL) hZ.alike A F2
  refine Fin.came (castTop (t := _) (by first | (simp [entryFrame, mkF, argsToLocals, Value.category]; done) | rfl) (Steps.refl _) : Steps p.tables e below (s₁.setTop (entryFrame m #[(.ref a), (.ref b)] 2)) (s₁.setTop (mkF m 0 #[.val (.ref a), .val (.ref b)] []))) ?_
  show Fin _ p e below s _ _ _ s₁ (mkF m 0 #[.val (.ref a), .val (.ref b)] [])
  refine Fin.go (fun _ k => XS.aloadN X0.here hx rfl (hb hby d2_0) rfl rfl k) ?_
  show Fin _ p e below s _ _ _ s₁ (mkF m 1 #[.val (.ref a), .val (.ref b)] [(.ref a)])
  refine Fin.go (fun _ k => XS.aloadN X0.here hx rfl (hb hby d2_1) rfl rfl k) ?_
  show Fin _ p e below s _ _ _ s₁ (mkF m 2 #[.val (.ref a), .val (.ref b)] [(.ref b), (.ref a)])
  refine Fin.go (fun _ k => XS.iconst X0.here hx rfl (hb hby d2_2) k) ?_
  show Fin _ p e below s _ _ _ s₁ (mkF m 3 #[.val (.ref a), .val (.ref b)] [(.int (0 : Int32)), (.ref b), (.ref a)])
  refine Fin.go (fun _ k => XS.aloadN X0.here hx rfl (hb hby d2_3) rfl rfl k) ?_
  show Fin _ p e below s _ _ _ s₁ (mkF m 4 #[.val (.ref a), .val (.ref b)] [(.ref b), (.int (0 : Int32)), (.ref b), (.ref a)])
  obtain ⟨c11, B11, q11, S11, M11, H11, G11⟩ := id VB
  refine Fin.go (fun _ k => X0.arraylength hx (by rw [e0]; exact B11.1) (State.isArrayOf_alike hZ.alike B11.2.1) (g := (mkF m 4 #[.val (.ref a), .val (.ref b)] [(.ref b), (.int (0 : Int32)), (.ref b), (.ref a)])) rfl rfl (hb hby d2_4) _ k) ?_
  rw [len_of S11 M11]
  show Fin _ p e below s _ _ _ s₁ (mkF m 5 #[.val (.ref a), .val (.ref b)] [(.int (0 : Int32)), (.int (0 : Int32)), (.ref b), (.ref a)])
  refine Fin.go (fun _ k => XS.aconstNull X0.here hx rfl (hb hby d2_5) k) ?_
  show Fin _ p e below s _ _ _ s₁ (mkF m 6 #[.val (.ref a), .val (.ref b)] [.null, (.int (0 : Int32)), (.int (0 : Int32)), (.ref b), (.ref a)])
  obtain ⟨v12, T12, L12, X12, hS12, hZ12, hown12, RC12, q12, st12⟩ := callCtH X0 hx hZ (y := (⟨"java/lang/String", "<init>", "([CIILjava/lang/Void;)V"⟩ : MethodName)) rfl hown (hw _ w_11) (hw _ w_12) (hw _ w_7) (hw _ w_14) (by decide) (W := 0) (rmStrV0 l Z a0 hw n0 h0 O a b kb VB A F1 F2 na) e0 hS (Nat.zero_le _) hEL RR0.1 (by decide) (by decide) (by decide) (by decide) (g := (mkF m 6 #[.val (.ref a), .val (.ref b)] [.null, (.int (0 : Int32)), (.int (0 : Int32)), (.ref b), (.ref a)])) rfl (by rw [hml]; rfl) (a := a) (argsL := [(.ref b), (.int (0 : Int32)), (.int (0 : Int32)), .null]) (rest := []) (lenOf pd_oACIILjava_lang_Void_cV rfl) rfl (by show 2 * 0 + _ ≤ _; exact Nat.le_of_eq rfl) (hb hby d2_6)
  obtain ⟨rfl, Nq12, Kq12, A12, C12, d12, kd12, F12, V12⟩ := q12
  have N12 := Fr.app N0 Nq12
  have O12 := O.keep Kq12 (allS na all0)
  have K12 := K0.trans Kq12 (allS (Or.inl (List.mem_of_getElem? (i := 0) rfl)) all0)
  have RR12 := RR0.trans RC12
  refine Fin.go st12 ?_
  show Fin _ p e below s _ _ _ T12 (mkF m 9 #[.val (.ref a), .val (.ref b)] [])
  exact Fin.leaveH X12 hS12 (Nat.le_refl T12.heap.size) hZ12 hEL (rfl : T12.heap = T12.heap) RR12 hlk (v := none) (fun _ => rfl) (by decide) (by decide) ⟨rfl, N12, K12, A12, C12, d12, kd12, F12, V12⟩ (fun fs hr => X12.returnOut hx hret (hb hby d2_9) hr)
set_option maxRecDepth 65536 in
set_option maxHeartbeats 40000000 in
theorem rmDraw (l : Launch) (Z : State) (a0 : Array Value) (hw : ∀ d ∈ tables_1, d.before a0 Z = true) (n0 : Nat) (h0 : Heap) (O : Old Z n0 h0) (n b : Int32) (cs : Int32) (S_cs : Sta Z Z.heap "java/lang/String" "COMPACT_STRINGS" "Z" (.int cs)) (hcs : ¬ cs = 0) :
    ConHW l Z EL [] (⟨"com/example/termspan/termspan/options/OptionFlagPinLaw", "draw", "(II)Ljava/lang/String;"⟩ : MethodName) method_2_code 5 (some (.object "java/lang/String")) ({ frames := 4, cells := 6, slots := 12, locals := 66 } : Room) #[(.int n), (.int b)] h0 (fun v h L => ∃ a, v = some (.ref a) ∧ Fr n0 L ∧ Keep h0 h [] ∧ Exa Z h a "java/lang/String") := by
  refine conOfH (plainFor_of_name pn_com_example_termspan_termspan_options_OptionFlagPinLaw) ?_
  intro p e s m below mth cc s₁ X0 hx hby hml hown hnm hret hlk hZ e0 hS RR0
  have N0 := Fr.nil n0
  have hEL := elW hw
  have K0 := Keep.refl h0 ([] : List Addr)
  refine Fin.came (castTop (t := _) (by first | (simp [entryFrame, mkF, argsToLocals, Value.category]; done) | rfl) (Steps.refl _) : Steps p.tables e below (s₁.setTop (entryFrame m #[(.int n), (.int b)] 5)) (s₁.setTop (mkF m 0 #[.val (.int n), .val (.int b), .unset, .unset, .unset] []))) ?_
  show Fin _ p e below s _ _ _ s₁ (mkF m 0 #[.val (.int n), .val (.int b), .unset, .unset, .unset] [])
  refine Fin.go (fun _ k => XS.iloadN X0.here hx rfl (hb hby d1_0) rfl k) ?_
  show Fin _ p e below s _ _ _ s₁ (mkF m 1 #[.val (.int n), .val (.int b), .unset, .unset, .unset] [(.int b)])
  refine Fin.go (fun _ k => XS.sipush X0.here hx rfl (hb hby d1_1) k) ?_
  show Fin _ p e below s _ _ _ s₁ (mkF m 4 #[.val (.int n), .val (.int b), .unset, .unset, .unset] [(.int (255 : Int32)), (.int b)])
  refine Fin.go (fun _ k => XS.iand X0.here hx rfl (hb hby d1_4) rfl k) ?_
  show Fin _ p e below s _ _ _ s₁ (mkF m 5 #[.val (.int n), .val (.int b), .unset, .unset, .unset] [(.int (b &&& (255 : Int32)))])
  refine Fin.go (fun _ k => XT.i2c X0.here hx rfl (hb hby d1_5) rfl k) ?_
  show Fin _ p e below s _ _ _ s₁ (mkF m 6 #[.val (.int n), .val (.int b), .unset, .unset, .unset] [(.int ((Int32.toUInt32 (b &&& (255 : Int32))).toUInt16.toUInt32.toInt32))])
  refine Fin.go (fun _ k => XS.istoreN X0.here hx rfl (hb hby d1_6) rfl (l' := #[.val (.int n), .val (.int b), .val (.int ((Int32.toUInt32 (b &&& (255 : Int32))).toUInt16.toUInt32.toInt32)), .unset, .unset]) rfl k) ?_
  show Fin _ p e below s _ _ _ s₁ (mkF m 7 #[.val (.int n), .val (.int b), .val (.int ((Int32.toUInt32 (b &&& (255 : Int32))).toUInt16.toUInt32.toInt32)), .unset, .unset] [])
  refine Fin.go (fun _ k => XS.iloadN X0.here hx rfl (hb hby d1_7) rfl k) ?_
  show Fin _ p e below s _ _ _ s₁ (mkF m 8 #[.val (.int n), .val (.int b), .val (.int ((Int32.toUInt32 (b &&& (255 : Int32))).toUInt16.toUInt32.toInt32)), .unset, .unset] [(.int b)])
  refine Fin.go (fun _ k => XS.bipush X0.here hx rfl (hb hby d1_8) k) ?_
  show Fin _ p e below s _ _ _ s₁ (mkF m 10 #[.val (.int n), .val (.int b), .val (.int ((Int32.toUInt32 (b &&& (255 : Int32))).toUInt16.toUInt32.toInt32)), .unset, .unset] [(.int (8 : Int32)), (.int b)])
  refine Fin.go (fun _ k => XT.iushr X0.here hx rfl (hb hby d1_10) rfl k) ?_
  show Fin _ p e below s _ _ _ s₁ (mkF m 11 #[.val (.int n), .val (.int b), .val (.int ((Int32.toUInt32 (b &&& (255 : Int32))).toUInt16.toUInt32.toInt32)), .unset, .unset] [(.int (XT.ushr b (8 : Int32)))])
  refine Fin.go (fun _ k => XS.sipush X0.here hx rfl (hb hby d1_11) k) ?_
  show Fin _ p e below s _ _ _ s₁ (mkF m 14 #[.val (.int n), .val (.int b), .val (.int ((Int32.toUInt32 (b &&& (255 : Int32))).toUInt16.toUInt32.toInt32)), .unset, .unset] [(.int (255 : Int32)), (.int (XT.ushr b (8 : Int32)))])
  refine Fin.go (fun _ k => XS.iand X0.here hx rfl (hb hby d1_14) rfl k) ?_
  show Fin _ p e below s _ _ _ s₁ (mkF m 15 #[.val (.int n), .val (.int b), .val (.int ((Int32.toUInt32 (b &&& (255 : Int32))).toUInt16.toUInt32.toInt32)), .unset, .unset] [(.int ((XT.ushr b (8 : Int32)) &&& (255 : Int32)))])
  refine Fin.go (fun _ k => XT.i2c X0.here hx rfl (hb hby d1_15) rfl k) ?_
  show Fin _ p e below s _ _ _ s₁ (mkF m 16 #[.val (.int n), .val (.int b), .val (.int ((Int32.toUInt32 (b &&& (255 : Int32))).toUInt16.toUInt32.toInt32)), .unset, .unset] [(.int ((Int32.toUInt32 ((XT.ushr b (8 : Int32)) &&& (255 : Int32))).toUInt16.toUInt32.toInt32))])
  refine Fin.go (fun _ k => XS.istoreN X0.here hx rfl (hb hby d1_16) rfl (l' := #[.val (.int n), .val (.int b), .val (.int ((Int32.toUInt32 (b &&& (255 : Int32))).toUInt16.toUInt32.toInt32)), .val (.int ((Int32.toUInt32 ((XT.ushr b (8 : Int32)) &&& (255 : Int32))).toUInt16.toUInt32.toInt32)), .unset]) rfl k) ?_
  show Fin _ p e below s _ _ _ s₁ (mkF m 17 #[.val (.int n), .val (.int b), .val (.int ((Int32.toUInt32 (b &&& (255 : Int32))).toUInt16.toUInt32.toInt32)), .val (.int ((Int32.toUInt32 ((XT.ushr b (8 : Int32)) &&& (255 : Int32))).toUInt16.toUInt32.toInt32)), .unset] [])
  refine Fin.go (fun _ k => XS.iloadN X0.here hx rfl (hb hby d1_17) rfl k) ?_
  show Fin _ p e below s _ _ _ s₁ (mkF m 18 #[.val (.int n), .val (.int b), .val (.int ((Int32.toUInt32 (b &&& (255 : Int32))).toUInt16.toUInt32.toInt32)), .val (.int ((Int32.toUInt32 ((XT.ushr b (8 : Int32)) &&& (255 : Int32))).toUInt16.toUInt32.toInt32)), .unset] [(.int n)])
  by_cases c18 : n = 0
  · refine Fin.go (fun _ k => XS.ifNo X0.here hx rfl (hb hby d1_18) rfl (XT.i0_ne_f c18) k) ?_
    show Fin _ p e below s _ _ _ s₁ (mkF m 21 #[.val (.int n), .val (.int b), .val (.int ((Int32.toUInt32 (b &&& (255 : Int32))).toUInt16.toUInt32.toInt32)), .val (.int ((Int32.toUInt32 ((XT.ushr b (8 : Int32)) &&& (255 : Int32))).toUInt16.toUInt32.toInt32)), .unset] [])
    obtain ⟨T11, h11, X11, e11, E11, A11, D11, U11, st11⟩ := newO X0 hx hZ hown (hw _ w_5) (hw _ w_6) (hw _ w_7) e0 (g := (mkF m 21 #[.val (.int n), .val (.int b), .val (.int ((Int32.toUInt32 (b &&& (255 : Int32))).toUInt16.toUInt32.toInt32)), .val (.int ((Int32.toUInt32 ((XT.ushr b (8 : Int32)) &&& (255 : Int32))).toUInt16.toUInt32.toInt32)), .unset] [])) rfl (hb hby d1_21) (by decide) (by decide)
    obtain ⟨a11, g11⟩ : ∃ z, z = h0.size := ⟨_, rfl⟩
    rw [← g11] at A11 D11 U11 st11
    refine Fin.go st11 ?_
    have O11 := O.ext E11
    have K11 := K0.ext E11
    have hk11 := Nat.le_trans (Nat.zero_le _) E11.1
    have RR11 := RR0.trans (CHr.ext E11 RR0.1)
    have n11 : n0 ≤ a11 := by have := O.2.1; have := O.1; omega
    have z11 : h0.size ≤ a11 := by have := K0.1; omega
    have sf11 := (Safe.new (Z := Z) (EL := EL) (vm := s.vm) (Nat.le_of_eq g11.symm)).ext E11 RR0.1
    have F11_coder : Fld Z h11 a11 "java/lang/String" "coder" "B" (.int (0 : Int32)) := D11 (Or.inr (hw _ w_31)) (ty := .byte) (by decide)
    have F11_value : Fld Z h11 a11 "java/lang/String" "value" "[B" .null := D11 (Or.inr (hw _ w_33)) (ty := (.array .byte)) (by decide)
    show Fin _ p e below s _ _ _ T11 (mkF m 24 #[.val (.int n), .val (.int b), .val (.int ((Int32.toUInt32 (b &&& (255 : Int32))).toUInt16.toUInt32.toInt32)), .val (.int ((Int32.toUInt32 ((XT.ushr b (8 : Int32)) &&& (255 : Int32))).toUInt16.toUInt32.toInt32)), .unset] [(.ref a11)])
    refine Fin.go (fun _ k => XS.dup X11.here hx rfl (hb hby d1_24) rfl rfl k) ?_
    show Fin _ p e below s _ _ _ T11 (mkF m 25 #[.val (.int n), .val (.int b), .val (.int ((Int32.toUInt32 (b &&& (255 : Int32))).toUInt16.toUInt32.toInt32)), .val (.int ((Int32.toUInt32 ((XT.ushr b (8 : Int32)) &&& (255 : Int32))).toUInt16.toUInt32.toInt32)), .unset] [(.ref a11), (.ref a11)])
    refine Fin.go (fun _ k => XS.iconst X11.here hx rfl (hb hby d1_25) k) ?_
    show Fin _ p e below s _ _ _ T11 (mkF m 26 #[.val (.int n), .val (.int b), .val (.int ((Int32.toUInt32 (b &&& (255 : Int32))).toUInt16.toUInt32.toInt32)), .val (.int ((Int32.toUInt32 ((XT.ushr b (8 : Int32)) &&& (255 : Int32))).toUInt16.toUInt32.toInt32)), .unset] [(.int (0 : Int32)), (.ref a11), (.ref a11)])
    obtain ⟨T12, h12, k12, X12, e12, E12, A12, st12⟩ := newP X11 hx hZ (aty := .char) (hw _ w_4) e11 (g := (mkF m 26 #[.val (.int n), .val (.int b), .val (.int ((Int32.toUInt32 (b &&& (255 : Int32))).toUInt16.toUInt32.toInt32)), .val (.int ((Int32.toUInt32 ((XT.ushr b (8 : Int32)) &&& (255 : Int32))).toUInt16.toUInt32.toInt32)), .unset] [(.int (0 : Int32)), (.ref a11), (.ref a11)])) rfl (hb hby d1_26) rfl (by decide : ¬ ((0 : Int32) < (0 : Int32))) (cap := 0) (by decide) (by decide) (by decide) (by decide)
    obtain ⟨a12, g12⟩ : ∃ z, z = h11.size := ⟨_, rfl⟩
    rw [← g12] at A12 st12
    refine Fin.go st12 ?_
    have O12 := O11.ext E12
    have K12 := K11.ext E12
    have hk12 := Nat.le_trans hk11 E12.1
    have RR12 := RR11.trans (CHr.ext E12 RR11.1)
    have n12 : n0 ≤ a12 := by have := O11.2.1; have := O11.1; omega
    have z12 : h0.size ≤ a12 := by have := K11.1; omega
    have V12 : Arv Z h12 a12 k12 .char (0 : Int32) [] (.int (0 : Int32)) := (Arv.new A12 (by decide))
    show Fin _ p e below s _ _ _ T12 (mkF m 28 #[.val (.int n), .val (.int b), .val (.int ((Int32.toUInt32 (b &&& (255 : Int32))).toUInt16.toUInt32.toInt32)), .val (.int ((Int32.toUInt32 ((XT.ushr b (8 : Int32)) &&& (255 : Int32))).toUInt16.toUInt32.toInt32)), .unset] [(.ref a12), (.ref a11), (.ref a11)])
    obtain ⟨v13, T13, L13, X13, hS13, hZ13, hown13, RC13, q13, st13⟩ := callCtH X12 hx hZ (y := (⟨"java/lang/String", "<init>", "([C)V"⟩ : MethodName)) rfl hown (hw _ w_8) (hw _ w_9) (hw _ w_7) (hw _ w_10) (by decide) (W := 1) (rmStr0 l Z a0 hw n0 h12 O12 a11 a12 k12 V12 (A11.ext E12) (F11_coder.ext E12) (F11_value.ext E12) n11) e12 hS hk12 hEL RR12.1 (by decide) (by decide) (by decide) (by decide) (g := (mkF m 28 #[.val (.int n), .val (.int b), .val (.int ((Int32.toUInt32 (b &&& (255 : Int32))).toUInt16.toUInt32.toInt32)), .val (.int ((Int32.toUInt32 ((XT.ushr b (8 : Int32)) &&& (255 : Int32))).toUInt16.toUInt32.toInt32)), .unset] [(.ref a12), (.ref a11), (.ref a11)])) rfl (by rw [hml]; rfl) (a := a11) (argsL := [(.ref a12)]) (rest := [(.ref a11)]) (lenOf pd_oACcV rfl) rfl (by show 2 * 0 + _ ≤ _; exact Nat.le_of_eq rfl) (hb hby d1_28)
    obtain ⟨rfl, Nq13, Kq13, A13, C13, d13, kd13, F13, V13⟩ := q13
    have N13 := Fr.app N0 Nq13
    have O13 := O12.keep Kq13 (allS n11 all0)
    have K13 := K12.trans Kq13 (allS (Or.inr z11) all0)
    have RR13 := RR12.trans RC13
    refine Fin.go st13 ?_
    have V13_a12 := (V12.keep Kq13 (ninS (Ne.symm (Nat.ne_of_lt (Nat.lt_of_lt_of_eq A11.lt g12.symm))) nin0))
    show Fin _ p e below s _ _ _ T13 (mkF m 31 #[.val (.int n), .val (.int b), .val (.int ((Int32.toUInt32 (b &&& (255 : Int32))).toUInt16.toUInt32.toInt32)), .val (.int ((Int32.toUInt32 ((XT.ushr b (8 : Int32)) &&& (255 : Int32))).toUInt16.toUInt32.toInt32)), .unset] [(.ref a11)])
    exact Fin.leaveH X13 hS13 (Nat.le_refl T13.heap.size) hZ13 hEL (rfl : T13.heap = T13.heap) RR13 hlk (v := some (.ref a11)) (fun h => by rw [hret] at h; cases h) (by decide) (by decide) ⟨a11, rfl, N13, K13, A13⟩ (fun fs hr => retOut X13 hx hret rfl (Or.inr (Or.inr (Or.inr (Or.inr ⟨rfl, rfl, rfl⟩)))) (hb hby d1_31) hr)
  · refine Fin.go (fun _ k => XS.ifYes X0.here hx rfl (pc0 := 18) (pc' := 32) rfl (hb hby d1_18) rfl (XT.i0_ne_t c18) (by decide) (by decide) k) ?_
    show Fin _ p e below s _ _ _ s₁ (mkF m 32 #[.val (.int n), .val (.int b), .val (.int ((Int32.toUInt32 (b &&& (255 : Int32))).toUInt16.toUInt32.toInt32)), .val (.int ((Int32.toUInt32 ((XT.ushr b (8 : Int32)) &&& (255 : Int32))).toUInt16.toUInt32.toInt32)), .unset] [])
    refine Fin.go (fun _ k => XS.iloadN X0.here hx rfl (hb hby d1_32) rfl k) ?_
    show Fin _ p e below s _ _ _ s₁ (mkF m 33 #[.val (.int n), .val (.int b), .val (.int ((Int32.toUInt32 (b &&& (255 : Int32))).toUInt16.toUInt32.toInt32)), .val (.int ((Int32.toUInt32 ((XT.ushr b (8 : Int32)) &&& (255 : Int32))).toUInt16.toUInt32.toInt32)), .unset] [(.int n)])
    refine Fin.go (fun _ k => XS.iconst X0.here hx rfl (hb hby d1_33) k) ?_
    show Fin _ p e below s _ _ _ s₁ (mkF m 34 #[.val (.int n), .val (.int b), .val (.int ((Int32.toUInt32 (b &&& (255 : Int32))).toUInt16.toUInt32.toInt32)), .val (.int ((Int32.toUInt32 ((XT.ushr b (8 : Int32)) &&& (255 : Int32))).toUInt16.toUInt32.toInt32)), .unset] [(.int (1 : Int32)), (.int n)])
    by_cases c34 : n = (1 : Int32)
    · refine Fin.go (fun _ k => XS.icmpNo X0.here hx rfl (hb hby d1_34) rfl (XT.ii_ne_f c34) k) ?_
      show Fin _ p e below s _ _ _ s₁ (mkF m 37 #[.val (.int n), .val (.int b), .val (.int ((Int32.toUInt32 (b &&& (255 : Int32))).toUInt16.toUInt32.toInt32)), .val (.int ((Int32.toUInt32 ((XT.ushr b (8 : Int32)) &&& (255 : Int32))).toUInt16.toUInt32.toInt32)), .unset] [])
      refine Fin.go (fun _ k => XS.iconst X0.here hx rfl (hb hby d1_37) k) ?_
      show Fin _ p e below s _ _ _ s₁ (mkF m 38 #[.val (.int n), .val (.int b), .val (.int ((Int32.toUInt32 (b &&& (255 : Int32))).toUInt16.toUInt32.toInt32)), .val (.int ((Int32.toUInt32 ((XT.ushr b (8 : Int32)) &&& (255 : Int32))).toUInt16.toUInt32.toInt32)), .unset] [(.int (1 : Int32))])
      obtain ⟨T14, h14, k14, X14, e14, E14, A14, st14⟩ := newP X0 hx hZ (aty := .char) (hw _ w_4) e0 (g := (mkF m 38 #[.val (.int n), .val (.int b), .val (.int ((Int32.toUInt32 (b &&& (255 : Int32))).toUInt16.toUInt32.toInt32)), .val (.int ((Int32.toUInt32 ((XT.ushr b (8 : Int32)) &&& (255 : Int32))).toUInt16.toUInt32.toInt32)), .unset] [(.int (1 : Int32))])) rfl (hb hby d1_38) rfl (by decide : ¬ ((1 : Int32) < (0 : Int32))) (cap := 1) (by decide) (by decide) (by decide) (by decide)
      obtain ⟨a14, g14⟩ : ∃ z, z = h0.size := ⟨_, rfl⟩
      rw [← g14] at A14 st14
      refine Fin.go st14 ?_
      have O14 := O.ext E14
      have K14 := K0.ext E14
      have hk14 := Nat.le_trans (Nat.zero_le _) E14.1
      have RR14 := RR0.trans (CHr.ext E14 RR0.1)
      have n14 : n0 ≤ a14 := by have := O.2.1; have := O.1; omega
      have z14 : h0.size ≤ a14 := by have := K0.1; omega
      have V14 : Arv Z h14 a14 k14 .char (1 : Int32) [(.int (0 : Int32))] (.int (0 : Int32)) := (Arv.new A14 (by decide)).pad (pad_rep [] (.int (0 : Int32)) 1)
      show Fin _ p e below s _ _ _ T14 (mkF m 40 #[.val (.int n), .val (.int b), .val (.int ((Int32.toUInt32 (b &&& (255 : Int32))).toUInt16.toUInt32.toInt32)), .val (.int ((Int32.toUInt32 ((XT.ushr b (8 : Int32)) &&& (255 : Int32))).toUInt16.toUInt32.toInt32)), .unset] [(.ref a14)])
      refine Fin.go (fun _ k => XS.astore X14.here hx rfl (hb hby d1_40) rfl rfl (l' := #[.val (.int n), .val (.int b), .val (.int ((Int32.toUInt32 (b &&& (255 : Int32))).toUInt16.toUInt32.toInt32)), .val (.int ((Int32.toUInt32 ((XT.ushr b (8 : Int32)) &&& (255 : Int32))).toUInt16.toUInt32.toInt32)), .val (.ref a14)]) rfl k) ?_
      show Fin _ p e below s _ _ _ T14 (mkF m 42 #[.val (.int n), .val (.int b), .val (.int ((Int32.toUInt32 (b &&& (255 : Int32))).toUInt16.toUInt32.toInt32)), .val (.int ((Int32.toUInt32 ((XT.ushr b (8 : Int32)) &&& (255 : Int32))).toUInt16.toUInt32.toInt32)), .val (.ref a14)] [])
      refine Fin.go (fun _ k => XS.aload X14.here hx rfl (hb hby d1_42) rfl rfl k) ?_
      show Fin _ p e below s _ _ _ T14 (mkF m 44 #[.val (.int n), .val (.int b), .val (.int ((Int32.toUInt32 (b &&& (255 : Int32))).toUInt16.toUInt32.toInt32)), .val (.int ((Int32.toUInt32 ((XT.ushr b (8 : Int32)) &&& (255 : Int32))).toUInt16.toUInt32.toInt32)), .val (.ref a14)] [(.ref a14)])
      refine Fin.go (fun _ k => XS.iconst X14.here hx rfl (hb hby d1_44) k) ?_
      show Fin _ p e below s _ _ _ T14 (mkF m 45 #[.val (.int n), .val (.int b), .val (.int ((Int32.toUInt32 (b &&& (255 : Int32))).toUInt16.toUInt32.toInt32)), .val (.int ((Int32.toUInt32 ((XT.ushr b (8 : Int32)) &&& (255 : Int32))).toUInt16.toUInt32.toInt32)), .val (.ref a14)] [(.int (0 : Int32)), (.ref a14)])
      refine Fin.go (fun _ k => XS.iloadN X14.here hx rfl (hb hby d1_45) rfl k) ?_
      show Fin _ p e below s _ _ _ T14 (mkF m 46 #[.val (.int n), .val (.int b), .val (.int ((Int32.toUInt32 (b &&& (255 : Int32))).toUInt16.toUInt32.toInt32)), .val (.int ((Int32.toUInt32 ((XT.ushr b (8 : Int32)) &&& (255 : Int32))).toUInt16.toUInt32.toInt32)), .val (.ref a14)] [(.int ((Int32.toUInt32 (b &&& (255 : Int32))).toUInt16.toUInt32.toInt32)), (.int (0 : Int32)), (.ref a14)])
      obtain ⟨c15, B15, q15, S15, M15, H15, G15⟩ := id V14
      obtain ⟨T15, h15, X15, e15, W15, st15⟩ := stC X14 hx hZ e14 B15 (j := (0 : Int32)) (inb_of S15 ⟨(by decide : ¬ ((0 : Int32) < (0 : Int32))), (by decide : (0 : Int32) < (1 : Int32))⟩) (g := (mkF m 46 #[.val (.int n), .val (.int b), .val (.int ((Int32.toUInt32 (b &&& (255 : Int32))).toUInt16.toUInt32.toInt32)), .val (.int ((Int32.toUInt32 ((XT.ushr b (8 : Int32)) &&& (255 : Int32))).toUInt16.toUInt32.toInt32)), .val (.ref a14)] [(.int ((Int32.toUInt32 (b &&& (255 : Int32))).toUInt16.toUInt32.toInt32)), (.int (0 : Int32)), (.ref a14)])) rfl rfl (hb hby d1_46)
      refine Fin.go st15 ?_
      have V15 : Arv Z h15 a14 k14 .char (1 : Int32) [(.int ((Int32.toUInt32 (b &&& (255 : Int32))).toUInt16.toUInt32.toInt32))] (.int (0 : Int32)) := (by have q : Arv Z h15 a14 k14 .char (1 : Int32) [(.int (nar .char ((Int32.toUInt32 (b &&& (255 : Int32))).toUInt16.toUInt32.toInt32)))] (.int (0 : Int32)) := (Arv.set B15 q15 S15 M15 H15 G15 (fits_nar_char _) W15 0 rfl (Nat.le_of_ble_eq_true rfl)); rwa [nar_c16] at q)
      have N15 := Fr.snoc X15 N0 n14
      have O15 := O14.wr W15 n14
      have K15 := K14.wr W15 (Or.inr z14)
      have hk15 := Nat.le_trans hk14 (Keep.of_wr W15).1
      have RR15 := RR14.trans (CHr.wr W15 (Safe.arv hZ.alike V14 (by decide)) RR14.1)
      show Fin _ p e below s _ _ _ T15 (mkF m 47 #[.val (.int n), .val (.int b), .val (.int ((Int32.toUInt32 (b &&& (255 : Int32))).toUInt16.toUInt32.toInt32)), .val (.int ((Int32.toUInt32 ((XT.ushr b (8 : Int32)) &&& (255 : Int32))).toUInt16.toUInt32.toInt32)), .val (.ref a14)] [])
      obtain ⟨T16, h16, X16, e16, E16, A16, D16, U16, st16⟩ := newO X15 hx hZ hown (hw _ w_5) (hw _ w_6) (hw _ w_7) e15 (g := (mkF m 47 #[.val (.int n), .val (.int b), .val (.int ((Int32.toUInt32 (b &&& (255 : Int32))).toUInt16.toUInt32.toInt32)), .val (.int ((Int32.toUInt32 ((XT.ushr b (8 : Int32)) &&& (255 : Int32))).toUInt16.toUInt32.toInt32)), .val (.ref a14)] [])) rfl (hb hby d1_47) (by decide) (by decide)
      obtain ⟨a16, g16⟩ : ∃ z, z = h15.size := ⟨_, rfl⟩
      rw [← g16] at A16 D16 U16 st16
      refine Fin.go st16 ?_
      have O16 := O15.ext E16
      have K16 := K15.ext E16
      have hk16 := Nat.le_trans hk15 E16.1
      have RR16 := RR15.trans (CHr.ext E16 RR15.1)
      have n16 : n0 ≤ a16 := by have := O15.2.1; have := O15.1; omega
      have z16 : h0.size ≤ a16 := by have := K15.1; omega
      have sf16 := (Safe.new (Z := Z) (EL := EL) (vm := s.vm) (Nat.le_of_eq g16.symm)).ext E16 RR15.1
      have F16_coder : Fld Z h16 a16 "java/lang/String" "coder" "B" (.int (0 : Int32)) := D16 (Or.inr (hw _ w_31)) (ty := .byte) (by decide)
      have F16_value : Fld Z h16 a16 "java/lang/String" "value" "[B" .null := D16 (Or.inr (hw _ w_33)) (ty := (.array .byte)) (by decide)
      show Fin _ p e below s _ _ _ T16 (mkF m 50 #[.val (.int n), .val (.int b), .val (.int ((Int32.toUInt32 (b &&& (255 : Int32))).toUInt16.toUInt32.toInt32)), .val (.int ((Int32.toUInt32 ((XT.ushr b (8 : Int32)) &&& (255 : Int32))).toUInt16.toUInt32.toInt32)), .val (.ref a14)] [(.ref a16)])
      refine Fin.go (fun _ k => XS.dup X16.here hx rfl (hb hby d1_50) rfl rfl k) ?_
      show Fin _ p e below s _ _ _ T16 (mkF m 51 #[.val (.int n), .val (.int b), .val (.int ((Int32.toUInt32 (b &&& (255 : Int32))).toUInt16.toUInt32.toInt32)), .val (.int ((Int32.toUInt32 ((XT.ushr b (8 : Int32)) &&& (255 : Int32))).toUInt16.toUInt32.toInt32)), .val (.ref a14)] [(.ref a16), (.ref a16)])
      refine Fin.go (fun _ k => XS.aload X16.here hx rfl (hb hby d1_51) rfl rfl k) ?_
      show Fin _ p e below s _ _ _ T16 (mkF m 53 #[.val (.int n), .val (.int b), .val (.int ((Int32.toUInt32 (b &&& (255 : Int32))).toUInt16.toUInt32.toInt32)), .val (.int ((Int32.toUInt32 ((XT.ushr b (8 : Int32)) &&& (255 : Int32))).toUInt16.toUInt32.toInt32)), .val (.ref a14)] [(.ref a14), (.ref a16), (.ref a16)])
      obtain ⟨v17, T17, L17, X17, q17, st17⟩ := callCt X16 hx hZ (y := (⟨"java/lang/String", "<init>", "([C)V"⟩ : MethodName)) rfl hown (hw _ w_8) (hw _ w_9) (hw _ w_7) (hw _ w_10) (by decide) (W := 1) (rmStr1 l Z a0 hw n0 h16 O16 a16 a14 k14 ((Int32.toUInt32 (b &&& (255 : Int32))).toUInt16.toUInt32.toInt32) cs S_cs hcs (V15.ext E16) A16 F16_coder F16_value (and255 _) n16 (Nat.ne_of_lt (Nat.lt_of_lt_of_eq V15.lt g16.symm))) e16 (by decide) (by decide) (by decide) (by decide) (g := (mkF m 53 #[.val (.int n), .val (.int b), .val (.int ((Int32.toUInt32 (b &&& (255 : Int32))).toUInt16.toUInt32.toInt32)), .val (.int ((Int32.toUInt32 ((XT.ushr b (8 : Int32)) &&& (255 : Int32))).toUInt16.toUInt32.toInt32)), .val (.ref a14)] [(.ref a14), (.ref a16), (.ref a16)])) rfl (by rw [hml]; rfl) (a := a16) (argsL := [(.ref a14)]) (rest := [(.ref a16)]) (lenOf pd_oACcV rfl) rfl (by show 2 * 0 + _ ≤ _; exact Nat.le_of_eq rfl) (hb hby d1_53)
      obtain ⟨rfl, Nq17, Kq17, A17, C17, d17, kd17, F17, V17, zd17⟩ := q17
      have N17 := Fr.app N15 Nq17
      have O17 := O16.keep Kq17 (allS n16 all0)
      have K17 := K16.trans Kq17 (allS (Or.inr z16) all0)
      have RR17 := RR16.trans (CHr.keep Kq17 (sfS sf16 sf0) RR16.1)
      have hk17 := Nat.le_trans hk16 Kq17.1
      refine Fin.go st17 ?_
      have V17_a14 := ((V15.ext E16).keep Kq17 (ninS (Nat.ne_of_lt (Nat.lt_of_lt_of_eq V15.lt g16.symm)) nin0))
      show Fin _ p e below s _ _ _ T17 (mkF m 56 #[.val (.int n), .val (.int b), .val (.int ((Int32.toUInt32 (b &&& (255 : Int32))).toUInt16.toUInt32.toInt32)), .val (.int ((Int32.toUInt32 ((XT.ushr b (8 : Int32)) &&& (255 : Int32))).toUInt16.toUInt32.toInt32)), .val (.ref a14)] [(.ref a16)])
      have nzd17 : n0 ≤ d17 := Nat.le_trans (by have := O16.1; have := O16.2.1; omega) zd17
      have hzd17 : h0.size ≤ d17 := Nat.le_trans K16.1 zd17
      exact Fin.leaveH X17 hS hk17 hZ hEL (rfl : T17.heap = T17.heap) RR17 hlk (v := some (.ref a16)) (fun h => by rw [hret] at h; cases h) (by decide) (by decide) ⟨a16, rfl, N17, K17, A17⟩ (fun fs hr => retOut X17 hx hret rfl (Or.inr (Or.inr (Or.inr (Or.inr ⟨rfl, rfl, rfl⟩)))) (hb hby d1_56) hr)
    · refine Fin.go (fun _ k => XS.icmpYes X0.here hx rfl (pc0 := 34) (pc' := 57) rfl (hb hby d1_34) rfl (XT.ii_ne_t c34) (by decide) (by decide) k) ?_
      show Fin _ p e below s _ _ _ s₁ (mkF m 57 #[.val (.int n), .val (.int b), .val (.int ((Int32.toUInt32 (b &&& (255 : Int32))).toUInt16.toUInt32.toInt32)), .val (.int ((Int32.toUInt32 ((XT.ushr b (8 : Int32)) &&& (255 : Int32))).toUInt16.toUInt32.toInt32)), .unset] [])
      refine Fin.go (fun _ k => XS.iconst X0.here hx rfl (hb hby d1_57) k) ?_
      show Fin _ p e below s _ _ _ s₁ (mkF m 58 #[.val (.int n), .val (.int b), .val (.int ((Int32.toUInt32 (b &&& (255 : Int32))).toUInt16.toUInt32.toInt32)), .val (.int ((Int32.toUInt32 ((XT.ushr b (8 : Int32)) &&& (255 : Int32))).toUInt16.toUInt32.toInt32)), .unset] [(.int (2 : Int32))])
      obtain ⟨T18, h18, k18, X18, e18, E18, A18, st18⟩ := newP X0 hx hZ (aty := .char) (hw _ w_4) e0 (g := (mkF m 58 #[.val (.int n), .val (.int b), .val (.int ((Int32.toUInt32 (b &&& (255 : Int32))).toUInt16.toUInt32.toInt32)), .val (.int ((Int32.toUInt32 ((XT.ushr b (8 : Int32)) &&& (255 : Int32))).toUInt16.toUInt32.toInt32)), .unset] [(.int (2 : Int32))])) rfl (hb hby d1_58) rfl (by decide : ¬ ((2 : Int32) < (0 : Int32))) (cap := 2) (by decide) (by decide) (by decide) (by decide)
      obtain ⟨a18, g18⟩ : ∃ z, z = h0.size := ⟨_, rfl⟩
      rw [← g18] at A18 st18
      refine Fin.go st18 ?_
      have O18 := O.ext E18
      have K18 := K0.ext E18
      have hk18 := Nat.le_trans (Nat.zero_le _) E18.1
      have RR18 := RR0.trans (CHr.ext E18 RR0.1)
      have n18 : n0 ≤ a18 := by have := O.2.1; have := O.1; omega
      have z18 : h0.size ≤ a18 := by have := K0.1; omega
      have V18 : Arv Z h18 a18 k18 .char (2 : Int32) [(.int (0 : Int32)), (.int (0 : Int32))] (.int (0 : Int32)) := (Arv.new A18 (by decide)).pad (pad_rep [] (.int (0 : Int32)) 2)
      show Fin _ p e below s _ _ _ T18 (mkF m 60 #[.val (.int n), .val (.int b), .val (.int ((Int32.toUInt32 (b &&& (255 : Int32))).toUInt16.toUInt32.toInt32)), .val (.int ((Int32.toUInt32 ((XT.ushr b (8 : Int32)) &&& (255 : Int32))).toUInt16.toUInt32.toInt32)), .unset] [(.ref a18)])
      refine Fin.go (fun _ k => XS.astore X18.here hx rfl (hb hby d1_60) rfl rfl (l' := #[.val (.int n), .val (.int b), .val (.int ((Int32.toUInt32 (b &&& (255 : Int32))).toUInt16.toUInt32.toInt32)), .val (.int ((Int32.toUInt32 ((XT.ushr b (8 : Int32)) &&& (255 : Int32))).toUInt16.toUInt32.toInt32)), .val (.ref a18)]) rfl k) ?_
      show Fin _ p e below s _ _ _ T18 (mkF m 62 #[.val (.int n), .val (.int b), .val (.int ((Int32.toUInt32 (b &&& (255 : Int32))).toUInt16.toUInt32.toInt32)), .val (.int ((Int32.toUInt32 ((XT.ushr b (8 : Int32)) &&& (255 : Int32))).toUInt16.toUInt32.toInt32)), .val (.ref a18)] [])
      refine Fin.go (fun _ k => XS.aload X18.here hx rfl (hb hby d1_62) rfl rfl k) ?_
      show Fin _ p e below s _ _ _ T18 (mkF m 64 #[.val (.int n), .val (.int b), .val (.int ((Int32.toUInt32 (b &&& (255 : Int32))).toUInt16.toUInt32.toInt32)), .val (.int ((Int32.toUInt32 ((XT.ushr b (8 : Int32)) &&& (255 : Int32))).toUInt16.toUInt32.toInt32)), .val (.ref a18)] [(.ref a18)])
      refine Fin.go (fun _ k => XS.iconst X18.here hx rfl (hb hby d1_64) k) ?_
      show Fin _ p e below s _ _ _ T18 (mkF m 65 #[.val (.int n), .val (.int b), .val (.int ((Int32.toUInt32 (b &&& (255 : Int32))).toUInt16.toUInt32.toInt32)), .val (.int ((Int32.toUInt32 ((XT.ushr b (8 : Int32)) &&& (255 : Int32))).toUInt16.toUInt32.toInt32)), .val (.ref a18)] [(.int (0 : Int32)), (.ref a18)])
      refine Fin.go (fun _ k => XS.iloadN X18.here hx rfl (hb hby d1_65) rfl k) ?_
      show Fin _ p e below s _ _ _ T18 (mkF m 66 #[.val (.int n), .val (.int b), .val (.int ((Int32.toUInt32 (b &&& (255 : Int32))).toUInt16.toUInt32.toInt32)), .val (.int ((Int32.toUInt32 ((XT.ushr b (8 : Int32)) &&& (255 : Int32))).toUInt16.toUInt32.toInt32)), .val (.ref a18)] [(.int ((Int32.toUInt32 (b &&& (255 : Int32))).toUInt16.toUInt32.toInt32)), (.int (0 : Int32)), (.ref a18)])
      obtain ⟨c19, B19, q19, S19, M19, H19, G19⟩ := id V18
      obtain ⟨T19, h19, X19, e19, W19, st19⟩ := stC X18 hx hZ e18 B19 (j := (0 : Int32)) (inb_of S19 ⟨(by decide : ¬ ((0 : Int32) < (0 : Int32))), (by decide : (0 : Int32) < (2 : Int32))⟩) (g := (mkF m 66 #[.val (.int n), .val (.int b), .val (.int ((Int32.toUInt32 (b &&& (255 : Int32))).toUInt16.toUInt32.toInt32)), .val (.int ((Int32.toUInt32 ((XT.ushr b (8 : Int32)) &&& (255 : Int32))).toUInt16.toUInt32.toInt32)), .val (.ref a18)] [(.int ((Int32.toUInt32 (b &&& (255 : Int32))).toUInt16.toUInt32.toInt32)), (.int (0 : Int32)), (.ref a18)])) rfl rfl (hb hby d1_66)
      refine Fin.go st19 ?_
      have V19 : Arv Z h19 a18 k18 .char (2 : Int32) [(.int ((Int32.toUInt32 (b &&& (255 : Int32))).toUInt16.toUInt32.toInt32)), (.int (0 : Int32))] (.int (0 : Int32)) := (by have q : Arv Z h19 a18 k18 .char (2 : Int32) [(.int (nar .char ((Int32.toUInt32 (b &&& (255 : Int32))).toUInt16.toUInt32.toInt32))), (.int (0 : Int32))] (.int (0 : Int32)) := (Arv.set B19 q19 S19 M19 H19 G19 (fits_nar_char _) W19 0 rfl (Nat.le_of_ble_eq_true rfl)); rwa [nar_c16] at q)
      have N19 := Fr.snoc X19 N0 n18
      have O19 := O18.wr W19 n18
      have K19 := K18.wr W19 (Or.inr z18)
      have hk19 := Nat.le_trans hk18 (Keep.of_wr W19).1
      have RR19 := RR18.trans (CHr.wr W19 (Safe.arv hZ.alike V18 (by decide)) RR18.1)
      show Fin _ p e below s _ _ _ T19 (mkF m 67 #[.val (.int n), .val (.int b), .val (.int ((Int32.toUInt32 (b &&& (255 : Int32))).toUInt16.toUInt32.toInt32)), .val (.int ((Int32.toUInt32 ((XT.ushr b (8 : Int32)) &&& (255 : Int32))).toUInt16.toUInt32.toInt32)), .val (.ref a18)] [])
      refine Fin.go (fun _ k => XS.aload X19.here hx rfl (hb hby d1_67) rfl rfl k) ?_
      show Fin _ p e below s _ _ _ T19 (mkF m 69 #[.val (.int n), .val (.int b), .val (.int ((Int32.toUInt32 (b &&& (255 : Int32))).toUInt16.toUInt32.toInt32)), .val (.int ((Int32.toUInt32 ((XT.ushr b (8 : Int32)) &&& (255 : Int32))).toUInt16.toUInt32.toInt32)), .val (.ref a18)] [(.ref a18)])
      refine Fin.go (fun _ k => XS.iconst X19.here hx rfl (hb hby d1_69) k) ?_
      show Fin _ p e below s _ _ _ T19 (mkF m 70 #[.val (.int n), .val (.int b), .val (.int ((Int32.toUInt32 (b &&& (255 : Int32))).toUInt16.toUInt32.toInt32)), .val (.int ((Int32.toUInt32 ((XT.ushr b (8 : Int32)) &&& (255 : Int32))).toUInt16.toUInt32.toInt32)), .val (.ref a18)] [(.int (1 : Int32)), (.ref a18)])
      refine Fin.go (fun _ k => XS.iloadN X19.here hx rfl (hb hby d1_70) rfl k) ?_
      show Fin _ p e below s _ _ _ T19 (mkF m 71 #[.val (.int n), .val (.int b), .val (.int ((Int32.toUInt32 (b &&& (255 : Int32))).toUInt16.toUInt32.toInt32)), .val (.int ((Int32.toUInt32 ((XT.ushr b (8 : Int32)) &&& (255 : Int32))).toUInt16.toUInt32.toInt32)), .val (.ref a18)] [(.int ((Int32.toUInt32 ((XT.ushr b (8 : Int32)) &&& (255 : Int32))).toUInt16.toUInt32.toInt32)), (.int (1 : Int32)), (.ref a18)])
      obtain ⟨c20, B20, q20, S20, M20, H20, G20⟩ := id V19
      obtain ⟨T20, h20, X20, e20, W20, st20⟩ := stC X19 hx hZ e19 B20 (j := (1 : Int32)) (inb_of S20 ⟨(by decide : ¬ ((1 : Int32) < (0 : Int32))), (by decide : (1 : Int32) < (2 : Int32))⟩) (g := (mkF m 71 #[.val (.int n), .val (.int b), .val (.int ((Int32.toUInt32 (b &&& (255 : Int32))).toUInt16.toUInt32.toInt32)), .val (.int ((Int32.toUInt32 ((XT.ushr b (8 : Int32)) &&& (255 : Int32))).toUInt16.toUInt32.toInt32)), .val (.ref a18)] [(.int ((Int32.toUInt32 ((XT.ushr b (8 : Int32)) &&& (255 : Int32))).toUInt16.toUInt32.toInt32)), (.int (1 : Int32)), (.ref a18)])) rfl rfl (hb hby d1_71)
      refine Fin.go st20 ?_
      have V20 : Arv Z h20 a18 k18 .char (2 : Int32) [(.int ((Int32.toUInt32 (b &&& (255 : Int32))).toUInt16.toUInt32.toInt32)), (.int ((Int32.toUInt32 ((XT.ushr b (8 : Int32)) &&& (255 : Int32))).toUInt16.toUInt32.toInt32))] (.int (0 : Int32)) := (by have q : Arv Z h20 a18 k18 .char (2 : Int32) [(.int ((Int32.toUInt32 (b &&& (255 : Int32))).toUInt16.toUInt32.toInt32)), (.int (nar .char ((Int32.toUInt32 ((XT.ushr b (8 : Int32)) &&& (255 : Int32))).toUInt16.toUInt32.toInt32)))] (.int (0 : Int32)) := (Arv.set B20 q20 S20 M20 H20 G20 (fits_nar_char _) W20 1 rfl (Nat.le_of_ble_eq_true rfl)); rwa [nar_c16] at q)
      have N20 := Fr.snoc X20 N19 n18
      have O20 := O19.wr W20 n18
      have K20 := K19.wr W20 (Or.inr z18)
      have hk20 := Nat.le_trans hk19 (Keep.of_wr W20).1
      have RR20 := RR19.trans (CHr.wr W20 (Safe.arv hZ.alike V19 (by decide)) RR19.1)
      show Fin _ p e below s _ _ _ T20 (mkF m 72 #[.val (.int n), .val (.int b), .val (.int ((Int32.toUInt32 (b &&& (255 : Int32))).toUInt16.toUInt32.toInt32)), .val (.int ((Int32.toUInt32 ((XT.ushr b (8 : Int32)) &&& (255 : Int32))).toUInt16.toUInt32.toInt32)), .val (.ref a18)] [])
      obtain ⟨T21, h21, X21, e21, E21, A21, D21, U21, st21⟩ := newO X20 hx hZ hown (hw _ w_5) (hw _ w_6) (hw _ w_7) e20 (g := (mkF m 72 #[.val (.int n), .val (.int b), .val (.int ((Int32.toUInt32 (b &&& (255 : Int32))).toUInt16.toUInt32.toInt32)), .val (.int ((Int32.toUInt32 ((XT.ushr b (8 : Int32)) &&& (255 : Int32))).toUInt16.toUInt32.toInt32)), .val (.ref a18)] [])) rfl (hb hby d1_72) (by decide) (by decide)
      obtain ⟨a21, g21⟩ : ∃ z, z = h20.size := ⟨_, rfl⟩
      rw [← g21] at A21 D21 U21 st21
      refine Fin.go st21 ?_
      have O21 := O20.ext E21
      have K21 := K20.ext E21
      have hk21 := Nat.le_trans hk20 E21.1
      have RR21 := RR20.trans (CHr.ext E21 RR20.1)
      have n21 : n0 ≤ a21 := by have := O20.2.1; have := O20.1; omega
      have z21 : h0.size ≤ a21 := by have := K20.1; omega
      have sf21 := (Safe.new (Z := Z) (EL := EL) (vm := s.vm) (Nat.le_of_eq g21.symm)).ext E21 RR20.1
      have F21_coder : Fld Z h21 a21 "java/lang/String" "coder" "B" (.int (0 : Int32)) := D21 (Or.inr (hw _ w_31)) (ty := .byte) (by decide)
      have F21_value : Fld Z h21 a21 "java/lang/String" "value" "[B" .null := D21 (Or.inr (hw _ w_33)) (ty := (.array .byte)) (by decide)
      show Fin _ p e below s _ _ _ T21 (mkF m 75 #[.val (.int n), .val (.int b), .val (.int ((Int32.toUInt32 (b &&& (255 : Int32))).toUInt16.toUInt32.toInt32)), .val (.int ((Int32.toUInt32 ((XT.ushr b (8 : Int32)) &&& (255 : Int32))).toUInt16.toUInt32.toInt32)), .val (.ref a18)] [(.ref a21)])
      refine Fin.go (fun _ k => XS.dup X21.here hx rfl (hb hby d1_75) rfl rfl k) ?_
      show Fin _ p e below s _ _ _ T21 (mkF m 76 #[.val (.int n), .val (.int b), .val (.int ((Int32.toUInt32 (b &&& (255 : Int32))).toUInt16.toUInt32.toInt32)), .val (.int ((Int32.toUInt32 ((XT.ushr b (8 : Int32)) &&& (255 : Int32))).toUInt16.toUInt32.toInt32)), .val (.ref a18)] [(.ref a21), (.ref a21)])
      refine Fin.go (fun _ k => XS.aload X21.here hx rfl (hb hby d1_76) rfl rfl k) ?_
      show Fin _ p e below s _ _ _ T21 (mkF m 78 #[.val (.int n), .val (.int b), .val (.int ((Int32.toUInt32 (b &&& (255 : Int32))).toUInt16.toUInt32.toInt32)), .val (.int ((Int32.toUInt32 ((XT.ushr b (8 : Int32)) &&& (255 : Int32))).toUInt16.toUInt32.toInt32)), .val (.ref a18)] [(.ref a18), (.ref a21), (.ref a21)])
      obtain ⟨v22, T22, L22, X22, q22, st22⟩ := callCt X21 hx hZ (y := (⟨"java/lang/String", "<init>", "([C)V"⟩ : MethodName)) rfl hown (hw _ w_8) (hw _ w_9) (hw _ w_7) (hw _ w_10) (by decide) (W := 1) (rmStr2 l Z a0 hw n0 h21 O21 a21 a18 k18 ((Int32.toUInt32 (b &&& (255 : Int32))).toUInt16.toUInt32.toInt32) ((Int32.toUInt32 ((XT.ushr b (8 : Int32)) &&& (255 : Int32))).toUInt16.toUInt32.toInt32) cs S_cs hcs (V20.ext E21) A21 F21_coder F21_value (and255 _) (and255 _) n21 (Nat.ne_of_lt (Nat.lt_of_lt_of_eq V20.lt g21.symm))) e21 (by decide) (by decide) (by decide) (by decide) (g := (mkF m 78 #[.val (.int n), .val (.int b), .val (.int ((Int32.toUInt32 (b &&& (255 : Int32))).toUInt16.toUInt32.toInt32)), .val (.int ((Int32.toUInt32 ((XT.ushr b (8 : Int32)) &&& (255 : Int32))).toUInt16.toUInt32.toInt32)), .val (.ref a18)] [(.ref a18), (.ref a21), (.ref a21)])) rfl (by rw [hml]; rfl) (a := a21) (argsL := [(.ref a18)]) (rest := [(.ref a21)]) (lenOf pd_oACcV rfl) rfl (by show 2 * 0 + _ ≤ _; exact Nat.le_of_eq rfl) (hb hby d1_78)
      obtain ⟨rfl, Nq22, Kq22, A22, C22, d22, kd22, F22, V22, zd22⟩ := q22
      have N22 := Fr.app N20 Nq22
      have O22 := O21.keep Kq22 (allS n21 all0)
      have K22 := K21.trans Kq22 (allS (Or.inr z21) all0)
      have RR22 := RR21.trans (CHr.keep Kq22 (sfS sf21 sf0) RR21.1)
      have hk22 := Nat.le_trans hk21 Kq22.1
      refine Fin.go st22 ?_
      have V22_a18 := ((V20.ext E21).keep Kq22 (ninS (Nat.ne_of_lt (Nat.lt_of_lt_of_eq V20.lt g21.symm)) nin0))
      show Fin _ p e below s _ _ _ T22 (mkF m 81 #[.val (.int n), .val (.int b), .val (.int ((Int32.toUInt32 (b &&& (255 : Int32))).toUInt16.toUInt32.toInt32)), .val (.int ((Int32.toUInt32 ((XT.ushr b (8 : Int32)) &&& (255 : Int32))).toUInt16.toUInt32.toInt32)), .val (.ref a18)] [(.ref a21)])
      have nzd22 : n0 ≤ d22 := Nat.le_trans (by have := O21.1; have := O21.2.1; omega) zd22
      have hzd22 : h0.size ≤ d22 := Nat.le_trans K21.1 zd22
      exact Fin.leaveH X22 hS hk22 hZ hEL (rfl : T22.heap = T22.heap) RR22 hlk (v := some (.ref a21)) (fun h => by rw [hret] at h; cases h) (by decide) (by decide) ⟨a21, rfl, N22, K22, A22⟩ (fun fs hr => retOut X22 hx hret rfl (Or.inr (Or.inr (Or.inr (Or.inr ⟨rfl, rfl, rfl⟩)))) (hb hby d1_81) hr)
set_option maxRecDepth 65536 in
set_option maxHeartbeats 40000000 in
theorem rmEqI (l : Launch) (Z : State) (a0 : Array Value) (hw : ∀ d ∈ tables_1, d.before a0 Z = true) (n0 : Nat) (h0 : Heap) (O : Old Z n0 h0) (a : Addr) :
    ConW FrameEnd l Z [] (⟨"java/lang/String", "equals", "(Ljava/lang/Object;)Z"⟩ : MethodName) jdk_42_method_66_code 3 (some .boolean) ({ frames := 0, cells := 0, slots := 0, locals := 0 } : Room) #[(.ref a), (.ref a)] h0 (Pure h0 (some (.int (1 : Int32)))) := by
  refine conOf (plainFor_of_name pn_java_lang_String) ?_
  intro p e s m below mth cc s₁ X0 hx hby hml hown hnm hret hlk hZ e0
  have N0 := Fr.nil n0
  refine Fin.came (castTop (t := _) (by first | (simp [entryFrame, mkF, argsToLocals, Value.category]; done) | rfl) (Steps.refl _) : Steps p.tables e below (s₁.setTop (entryFrame m #[(.ref a), (.ref a)] 3)) (s₁.setTop (mkF m 0 #[.val (.ref a), .val (.ref a), .unset] []))) ?_
  show Fin _ p e below s _ _ _ s₁ (mkF m 0 #[.val (.ref a), .val (.ref a), .unset] [])
  refine Fin.go (fun _ k => XS.aloadN X0.here hx rfl (hb hby d12_0) rfl rfl k) ?_
  show Fin _ p e below s _ _ _ s₁ (mkF m 1 #[.val (.ref a), .val (.ref a), .unset] [(.ref a)])
  refine Fin.go (fun _ k => XS.aloadN X0.here hx rfl (hb hby d12_1) rfl rfl k) ?_
  show Fin _ p e below s _ _ _ s₁ (mkF m 2 #[.val (.ref a), .val (.ref a), .unset] [(.ref a), (.ref a)])
  refine Fin.go (fun _ k => XT.acmpNo X0.here hx rfl (hb hby d12_2) rfl rfl rfl (XT.aa_ne_f rfl) k) ?_
  show Fin _ p e below s _ _ _ s₁ (mkF m 5 #[.val (.ref a), .val (.ref a), .unset] [])
  refine Fin.go (fun _ k => XS.iconst X0.here hx rfl (hb hby d12_5) k) ?_
  show Fin _ p e below s _ _ _ s₁ (mkF m 6 #[.val (.ref a), .val (.ref a), .unset] [(.int (1 : Int32))])
  exact Fin.leaveN X0 e0 hlk (v := some (.int (nar .boolean (1 : Int32)))) (fun h => by rw [hret] at h; cases h) (by decide) (by decide) ⟨rfl, rfl, rfl⟩ (fun fs hr => retN X0 hx (t := .boolean) hret (by simp) (hb hby d12_6) hr)
set_option maxRecDepth 65536 in
set_option maxHeartbeats 40000000 in
theorem rmRec (l : Launch) (Z : State) (a0 : Array Value) (hw : ∀ d ∈ tables_1, d.before a0 Z = true) (n0 : Nat) (h0 : Heap) (O : Old Z n0 h0) (a : Addr) :
    ConW FrameEnd l Z [] (⟨"java/lang/Record", "<init>", "()V"⟩ : MethodName) jdk_30_method_1_code 1 none ({ frames := 1, cells := 0, slots := 0, locals := 12 } : Room) #[(.ref a)] h0 (Pure h0 none) := by
  refine conOf (plainFor_of_name pn_java_lang_Record) ?_
  intro p e s m below mth cc s₁ X0 hx hby hml hown hnm hret hlk hZ e0
  have N0 := Fr.nil n0
  refine Fin.came (castTop (t := _) (by first | (simp [entryFrame, mkF, argsToLocals, Value.category]; done) | rfl) (Steps.refl _) : Steps p.tables e below (s₁.setTop (entryFrame m #[(.ref a)] 1)) (s₁.setTop (mkF m 0 #[.val (.ref a)] []))) ?_
  show Fin _ p e below s _ _ _ s₁ (mkF m 0 #[.val (.ref a)] [])
  refine Fin.go (fun _ k => XS.aloadN X0.here hx rfl (hb hby d10_0) rfl rfl k) ?_
  show Fin _ p e below s _ _ _ s₁ (mkF m 1 #[.val (.ref a)] [(.ref a)])
  obtain ⟨T11, X11, e11, st11⟩ := initO X0 hx hZ hown (hw _ w_51) (hw _ w_16) (hw _ w_17) e0 (g := (mkF m 1 #[.val (.ref a)] [(.ref a)])) rfl (by rw [hml]; rfl) rfl (hb hby d10_1) (by decide) (W := 0) (by show 2 * 0 + _ ≤ _; exact Nat.le_of_eq rfl) (by decide)
  refine Fin.go st11 ?_
  show Fin _ p e below s _ _ _ T11 (mkF m 4 #[.val (.ref a)] [])
  exact Fin.leaveN X11 e11 hlk (v := none) (fun _ => rfl) (by decide) (by decide) ⟨rfl, rfl, rfl⟩ (fun fs hr => X11.returnOut hx hret (hb hby d10_4) hr)
set_option maxRecDepth 65536 in
set_option maxHeartbeats 40000000 in
theorem rmOI (l : Launch) (Z : State) (a0 : Array Value) (hw : ∀ d ∈ tables_1, d.before a0 Z = true) (n0 : Nat) (h0 : Heap) (O : Old Z n0 h0) (a sn sd : Addr) (A : Exa Z h0 a "com/example/termspan/termspan/options/Option") (F_name : Fld Z h0 a "com/example/termspan/termspan/options/Option" "name" "Ljava/lang/String;" .null) (F_value : Fld Z h0 a "com/example/termspan/termspan/options/Option" "value" "Ljava/lang/String;" .null) (F_fallback : Fld Z h0 a "com/example/termspan/termspan/options/Option" "fallback" "Ljava/lang/String;" .null) (F_required : Fld Z h0 a "com/example/termspan/termspan/options/Option" "required" "Z" (.int (0 : Int32))) (F_repeatable : Fld Z h0 a "com/example/termspan/termspan/options/Option" "repeatable" "Z" (.int (0 : Int32))) (F_description : Fld Z h0 a "com/example/termspan/termspan/options/Option" "description" "Ljava/lang/String;" .null) (F_range : Fld Z h0 a "com/example/termspan/termspan/options/Option" "range" "Lcom/example/termspan/termspan/options/Option$Range;" .null) (na : n0 ≤ a) :
    ConW FrameEnd l Z [] (⟨"com/example/termspan/termspan/options/Option", "<init>", "(Ljava/lang/String;Ljava/lang/String;Ljava/lang/String;ZZLjava/lang/String;Lcom/example/termspan/termspan/options/Option$Range;)V"⟩ : MethodName) prog_31_method_1_code 8 none ({ frames := 2, cells := 0, slots := 0, locals := 24 } : Room) #[(.ref a), (.ref sn), .null, .null, (.int (0 : Int32)), (.int (0 : Int32)), (.ref sd), .null] h0 (fun v h L => v = none ∧ Fr n0 L ∧ Keep h0 h [a] ∧ Exa Z h a "com/example/termspan/termspan/options/Option" ∧ Fld Z h a "com/example/termspan/termspan/options/Option" "name" "Ljava/lang/String;" (.ref sn) ∧ Fld Z h a "com/example/termspan/termspan/options/Option" "value" "Ljava/lang/String;" .null ∧ Fld Z h a "com/example/termspan/termspan/options/Option" "fallback" "Ljava/lang/String;" .null ∧ Fld Z h a "com/example/termspan/termspan/options/Option" "required" "Z" (.int (0 : Int32)) ∧ Fld Z h a "com/example/termspan/termspan/options/Option" "repeatable" "Z" (.int (0 : Int32)) ∧ Fld Z h a "com/example/termspan/termspan/options/Option" "description" "Ljava/lang/String;" (.ref sd) ∧ Fld Z h a "com/example/termspan/termspan/options/Option" "range" "Lcom/example/termspan/termspan/options/Option$Range;" .null) := by
  refine conOf (plainFor_of_name pn_com_example_termspan_termspan_options_Option) ?_
  intro p e s m below mth cc s₁ X0 hx hby hml hown hnm hret hlk hZ e0
  have N0 := Fr.nil n0
  have K0 := Keep.refl h0 ([a] : List Addr)
  refine Fin.came (castTop (t := _) (by first | (simp [entryFrame, mkF, argsToLocals, Value.category]; done) | rfl) (Steps.refl _) : Steps p.tables e below (s₁.setTop (entryFrame m #[(.ref a), (.ref sn), .null, .null, (.int (0 : Int32)), (.int (0 : Int32)), (.ref sd), .null] 8)) (s₁.setTop (mkF m 0 #[.val (.ref a), .val (.ref sn), .val .null, .val .null, .val (.int (0 : Int32)), .val (.int (0 : Int32)), .val (.ref sd), .val .null] []))) ?_
  show Fin _ p e below s _ _ _ s₁ (mkF m 0 #[.val (.ref a), .val (.ref sn), .val .null, .val .null, .val (.int (0 : Int32)), .val (.int (0 : Int32)), .val (.ref sd), .val .null] [])
  refine Fin.go (fun _ k => XS.aloadN X0.here hx rfl (hb hby d9_0) rfl rfl k) ?_
  show Fin _ p e below s _ _ _ s₁ (mkF m 1 #[.val (.ref a), .val (.ref sn), .val .null, .val .null, .val (.int (0 : Int32)), .val (.int (0 : Int32)), .val (.ref sd), .val .null] [(.ref a)])
  obtain ⟨v11, T11, L11, X11, q11, st11⟩ := callCt X0 hx hZ (y := (⟨"java/lang/Record", "<init>", "()V"⟩ : MethodName)) rfl hown (hw _ w_46) (hw _ w_47) (hw _ w_49) (hw _ w_50) (by decide) (W := 0) (rmRec l Z a0 hw n0 h0 O a) e0 (by decide) (by decide) (by decide) (by decide) (g := (mkF m 1 #[.val (.ref a), .val (.ref sn), .val .null, .val .null, .val (.int (0 : Int32)), .val (.int (0 : Int32)), .val (.ref sd), .val .null] [(.ref a)])) rfl (by rw [hml]; rfl) (a := a) (argsL := []) (rest := []) (lenOf pd_ocV rfl) rfl (by show 2 * 0 + _ ≤ _; exact Nat.le_of_eq rfl) (hb hby d9_1)
  obtain ⟨rfl, e11, rfl⟩ := q11
  have N11 := Fr.app N0 (Fr.nil n0)
  refine Fin.go st11 ?_
  show Fin _ p e below s _ _ _ T11 (mkF m 4 #[.val (.ref a), .val (.ref sn), .val .null, .val .null, .val (.int (0 : Int32)), .val (.int (0 : Int32)), .val (.ref sd), .val .null] [])
  refine Fin.go (fun _ k => XS.aloadN X11.here hx rfl (hb hby d9_4) rfl rfl k) ?_
  show Fin _ p e below s _ _ _ T11 (mkF m 5 #[.val (.ref a), .val (.ref sn), .val .null, .val .null, .val (.int (0 : Int32)), .val (.int (0 : Int32)), .val (.ref sd), .val .null] [(.ref a)])
  refine Fin.go (fun _ k => XS.aloadN X11.here hx rfl (hb hby d9_5) rfl rfl k) ?_
  show Fin _ p e below s _ _ _ T11 (mkF m 6 #[.val (.ref a), .val (.ref sn), .val .null, .val .null, .val (.int (0 : Int32)), .val (.int (0 : Int32)), .val (.ref sd), .val .null] [(.ref sn), (.ref a)])
  obtain ⟨T12, h12, X12, e12, W12, st12⟩ := putF X11 hx hZ hown (host := "") (Or.inl (hw _ w_52)) Via.refl e11 F_name A (Or.inr ⟨(hw _ w_53), rfl, hnm⟩) (hw _ w_42) (ty := (.object "java/lang/String")) (by decide) rfl rfl (g := (mkF m 6 #[.val (.ref a), .val (.ref sn), .val .null, .val .null, .val (.int (0 : Int32)), .val (.int (0 : Int32)), .val (.ref sd), .val .null] [(.ref sn), (.ref a)])) rfl rfl (hb hby d9_6)
  refine Fin.go st12 ?_
  have N12 := Fr.snoc X12 N11 na
  have O12 := O.wr W12 na
  have K12 := K0.wr W12 (Or.inl (List.mem_of_getElem? (i := 0) rfl))
  have F12_a_value := (F_value.other W12 (Or.inr (slot_ne (Or.inr (hw _ w_55)) (Or.inr (hw _ w_53)) (by decide) (t := (.object "java/lang/String")) (t' := (.object "java/lang/String")) (by decide) (by decide))))
  have F12_a_fallback := (F_fallback.other W12 (Or.inr (slot_ne (Or.inr (hw _ w_57)) (Or.inr (hw _ w_53)) (by decide) (t := (.object "java/lang/String")) (t' := (.object "java/lang/String")) (by decide) (by decide))))
  have F12_a_required := (F_required.other W12 (Or.inr (slot_ne (Or.inr (hw _ w_59)) (Or.inr (hw _ w_53)) (by decide) (t := .boolean) (t' := (.object "java/lang/String")) (by decide) (by decide))))
  have F12_a_repeatable := (F_repeatable.other W12 (Or.inr (slot_ne (Or.inr (hw _ w_61)) (Or.inr (hw _ w_53)) (by decide) (t := .boolean) (t' := (.object "java/lang/String")) (by decide) (by decide))))
  have F12_a_description := (F_description.other W12 (Or.inr (slot_ne (Or.inr (hw _ w_63)) (Or.inr (hw _ w_53)) (by decide) (t := (.object "java/lang/String")) (t' := (.object "java/lang/String")) (by decide) (by decide))))
  have F12_a_range := (F_range.other W12 (Or.inr (slot_ne (Or.inr (hw _ w_65)) (Or.inr (hw _ w_53)) (by decide) (t := (.object "com/example/termspan/termspan/options/Option$Range")) (t' := (.object "java/lang/String")) (by decide) (by decide))))
  show Fin _ p e below s _ _ _ T12 (mkF m 9 #[.val (.ref a), .val (.ref sn), .val .null, .val .null, .val (.int (0 : Int32)), .val (.int (0 : Int32)), .val (.ref sd), .val .null] [])
  refine Fin.go (fun _ k => XS.aloadN X12.here hx rfl (hb hby d9_9) rfl rfl k) ?_
  show Fin _ p e below s _ _ _ T12 (mkF m 10 #[.val (.ref a), .val (.ref sn), .val .null, .val .null, .val (.int (0 : Int32)), .val (.int (0 : Int32)), .val (.ref sd), .val .null] [(.ref a)])
  refine Fin.go (fun _ k => XS.aloadN X12.here hx rfl (hb hby d9_10) rfl rfl k) ?_
  show Fin _ p e below s _ _ _ T12 (mkF m 11 #[.val (.ref a), .val (.ref sn), .val .null, .val .null, .val (.int (0 : Int32)), .val (.int (0 : Int32)), .val (.ref sd), .val .null] [.null, (.ref a)])
  obtain ⟨T13, h13, X13, e13, W13, st13⟩ := putF X12 hx hZ hown (host := "") (Or.inl (hw _ w_54)) Via.refl e12 F12_a_value (A.wr W12) (Or.inr ⟨(hw _ w_55), rfl, hnm⟩) (hw _ w_42) (ty := (.object "java/lang/String")) (by decide) rfl rfl (g := (mkF m 11 #[.val (.ref a), .val (.ref sn), .val .null, .val .null, .val (.int (0 : Int32)), .val (.int (0 : Int32)), .val (.ref sd), .val .null] [.null, (.ref a)])) rfl rfl (hb hby d9_11)
  refine Fin.go st13 ?_
  have N13 := Fr.snoc X13 N12 na
  have O13 := O12.wr W13 na
  have K13 := K12.wr W13 (Or.inl (List.mem_of_getElem? (i := 0) rfl))
  have F13_a_name := ((F_name.same W12).other W13 (Or.inr (slot_ne (Or.inr (hw _ w_53)) (Or.inr (hw _ w_55)) (by decide) (t := (.object "java/lang/String")) (t' := (.object "java/lang/String")) (by decide) (by decide))))
  have F13_a_fallback := (F12_a_fallback.other W13 (Or.inr (slot_ne (Or.inr (hw _ w_57)) (Or.inr (hw _ w_55)) (by decide) (t := (.object "java/lang/String")) (t' := (.object "java/lang/String")) (by decide) (by decide))))
  have F13_a_required := (F12_a_required.other W13 (Or.inr (slot_ne (Or.inr (hw _ w_59)) (Or.inr (hw _ w_55)) (by decide) (t := .boolean) (t' := (.object "java/lang/String")) (by decide) (by decide))))
  have F13_a_repeatable := (F12_a_repeatable.other W13 (Or.inr (slot_ne (Or.inr (hw _ w_61)) (Or.inr (hw _ w_55)) (by decide) (t := .boolean) (t' := (.object "java/lang/String")) (by decide) (by decide))))
  have F13_a_description := (F12_a_description.other W13 (Or.inr (slot_ne (Or.inr (hw _ w_63)) (Or.inr (hw _ w_55)) (by decide) (t := (.object "java/lang/String")) (t' := (.object "java/lang/String")) (by decide) (by decide))))
  have F13_a_range := (F12_a_range.other W13 (Or.inr (slot_ne (Or.inr (hw _ w_65)) (Or.inr (hw _ w_55)) (by decide) (t := (.object "com/example/termspan/termspan/options/Option$Range")) (t' := (.object "java/lang/String")) (by decide) (by decide))))
  show Fin _ p e below s _ _ _ T13 (mkF m 14 #[.val (.ref a), .val (.ref sn), .val .null, .val .null, .val (.int (0 : Int32)), .val (.int (0 : Int32)), .val (.ref sd), .val .null] [])
  refine Fin.go (fun _ k => XS.aloadN X13.here hx rfl (hb hby d9_14) rfl rfl k) ?_
  show Fin _ p e below s _ _ _ T13 (mkF m 15 #[.val (.ref a), .val (.ref sn), .val .null, .val .null, .val (.int (0 : Int32)), .val (.int (0 : Int32)), .val (.ref sd), .val .null] [(.ref a)])
  refine Fin.go (fun _ k => XS.aloadN X13.here hx rfl (hb hby d9_15) rfl rfl k) ?_
  show Fin _ p e below s _ _ _ T13 (mkF m 16 #[.val (.ref a), .val (.ref sn), .val .null, .val .null, .val (.int (0 : Int32)), .val (.int (0 : Int32)), .val (.ref sd), .val .null] [.null, (.ref a)])
  obtain ⟨T14, h14, X14, e14, W14, st14⟩ := putF X13 hx hZ hown (host := "") (Or.inl (hw _ w_56)) Via.refl e13 F13_a_fallback ((A.wr W12).wr W13) (Or.inr ⟨(hw _ w_57), rfl, hnm⟩) (hw _ w_42) (ty := (.object "java/lang/String")) (by decide) rfl rfl (g := (mkF m 16 #[.val (.ref a), .val (.ref sn), .val .null, .val .null, .val (.int (0 : Int32)), .val (.int (0 : Int32)), .val (.ref sd), .val .null] [.null, (.ref a)])) rfl rfl (hb hby d9_16)
  refine Fin.go st14 ?_
  have N14 := Fr.snoc X14 N13 na
  have O14 := O13.wr W14 na
  have K14 := K13.wr W14 (Or.inl (List.mem_of_getElem? (i := 0) rfl))
  have F14_a_name := (F13_a_name.other W14 (Or.inr (slot_ne (Or.inr (hw _ w_53)) (Or.inr (hw _ w_57)) (by decide) (t := (.object "java/lang/String")) (t' := (.object "java/lang/String")) (by decide) (by decide))))
  have F14_a_value := ((F12_a_value.same W13).other W14 (Or.inr (slot_ne (Or.inr (hw _ w_55)) (Or.inr (hw _ w_57)) (by decide) (t := (.object "java/lang/String")) (t' := (.object "java/lang/String")) (by decide) (by decide))))
  have F14_a_required := (F13_a_required.other W14 (Or.inr (slot_ne (Or.inr (hw _ w_59)) (Or.inr (hw _ w_57)) (by decide) (t := .boolean) (t' := (.object "java/lang/String")) (by decide) (by decide))))
  have F14_a_repeatable := (F13_a_repeatable.other W14 (Or.inr (slot_ne (Or.inr (hw _ w_61)) (Or.inr (hw _ w_57)) (by decide) (t := .boolean) (t' := (.object "java/lang/String")) (by decide) (by decide))))
  have F14_a_description := (F13_a_description.other W14 (Or.inr (slot_ne (Or.inr (hw _ w_63)) (Or.inr (hw _ w_57)) (by decide) (t := (.object "java/lang/String")) (t' := (.object "java/lang/String")) (by decide) (by decide))))
  have F14_a_range := (F13_a_range.other W14 (Or.inr (slot_ne (Or.inr (hw _ w_65)) (Or.inr (hw _ w_57)) (by decide) (t := (.object "com/example/termspan/termspan/options/Option$Range")) (t' := (.object "java/lang/String")) (by decide) (by decide))))
  show Fin _ p e below s _ _ _ T14 (mkF m 19 #[.val (.ref a), .val (.ref sn), .val .null, .val .null, .val (.int (0 : Int32)), .val (.int (0 : Int32)), .val (.ref sd), .val .null] [])
  refine Fin.go (fun _ k => XS.aloadN X14.here hx rfl (hb hby d9_19) rfl rfl k) ?_
  show Fin _ p e below s _ _ _ T14 (mkF m 20 #[.val (.ref a), .val (.ref sn), .val .null, .val .null, .val (.int (0 : Int32)), .val (.int (0 : Int32)), .val (.ref sd), .val .null] [(.ref a)])
  refine Fin.go (fun _ k => XS.iload X14.here hx rfl (hb hby d9_20) rfl k) ?_
  show Fin _ p e below s _ _ _ T14 (mkF m 22 #[.val (.ref a), .val (.ref sn), .val .null, .val .null, .val (.int (0 : Int32)), .val (.int (0 : Int32)), .val (.ref sd), .val .null] [(.int (0 : Int32)), (.ref a)])
  obtain ⟨T15, h15, X15, e15, W15, st15⟩ := putF X14 hx hZ hown (host := "") (Or.inl (hw _ w_58)) Via.refl e14 F14_a_required (((A.wr W12).wr W13).wr W14) (Or.inr ⟨(hw _ w_59), rfl, hnm⟩) (hw _ w_42) (ty := .boolean) (by decide) rfl rfl (g := (mkF m 22 #[.val (.ref a), .val (.ref sn), .val .null, .val .null, .val (.int (0 : Int32)), .val (.int (0 : Int32)), .val (.ref sd), .val .null] [(.int (0 : Int32)), (.ref a)])) rfl rfl (hb hby d9_22)
  refine Fin.go st15 ?_
  have N15 := Fr.snoc X15 N14 na
  have O15 := O14.wr W15 na
  have K15 := K14.wr W15 (Or.inl (List.mem_of_getElem? (i := 0) rfl))
  have F15_a_name := (F14_a_name.other W15 (Or.inr (slot_ne (Or.inr (hw _ w_53)) (Or.inr (hw _ w_59)) (by decide) (t := (.object "java/lang/String")) (t' := .boolean) (by decide) (by decide))))
  have F15_a_value := (F14_a_value.other W15 (Or.inr (slot_ne (Or.inr (hw _ w_55)) (Or.inr (hw _ w_59)) (by decide) (t := (.object "java/lang/String")) (t' := .boolean) (by decide) (by decide))))
  have F15_a_fallback := ((F13_a_fallback.same W14).other W15 (Or.inr (slot_ne (Or.inr (hw _ w_57)) (Or.inr (hw _ w_59)) (by decide) (t := (.object "java/lang/String")) (t' := .boolean) (by decide) (by decide))))
  have F15_a_repeatable := (F14_a_repeatable.other W15 (Or.inr (slot_ne (Or.inr (hw _ w_61)) (Or.inr (hw _ w_59)) (by decide) (t := .boolean) (t' := .boolean) (by decide) (by decide))))
  have F15_a_description := (F14_a_description.other W15 (Or.inr (slot_ne (Or.inr (hw _ w_63)) (Or.inr (hw _ w_59)) (by decide) (t := (.object "java/lang/String")) (t' := .boolean) (by decide) (by decide))))
  have F15_a_range := (F14_a_range.other W15 (Or.inr (slot_ne (Or.inr (hw _ w_65)) (Or.inr (hw _ w_59)) (by decide) (t := (.object "com/example/termspan/termspan/options/Option$Range")) (t' := .boolean) (by decide) (by decide))))
  show Fin _ p e below s _ _ _ T15 (mkF m 25 #[.val (.ref a), .val (.ref sn), .val .null, .val .null, .val (.int (0 : Int32)), .val (.int (0 : Int32)), .val (.ref sd), .val .null] [])
  refine Fin.go (fun _ k => XS.aloadN X15.here hx rfl (hb hby d9_25) rfl rfl k) ?_
  show Fin _ p e below s _ _ _ T15 (mkF m 26 #[.val (.ref a), .val (.ref sn), .val .null, .val .null, .val (.int (0 : Int32)), .val (.int (0 : Int32)), .val (.ref sd), .val .null] [(.ref a)])
  refine Fin.go (fun _ k => XS.iload X15.here hx rfl (hb hby d9_26) rfl k) ?_
  show Fin _ p e below s _ _ _ T15 (mkF m 28 #[.val (.ref a), .val (.ref sn), .val .null, .val .null, .val (.int (0 : Int32)), .val (.int (0 : Int32)), .val (.ref sd), .val .null] [(.int (0 : Int32)), (.ref a)])
  obtain ⟨T16, h16, X16, e16, W16, st16⟩ := putF X15 hx hZ hown (host := "") (Or.inl (hw _ w_60)) Via.refl e15 F15_a_repeatable ((((A.wr W12).wr W13).wr W14).wr W15) (Or.inr ⟨(hw _ w_61), rfl, hnm⟩) (hw _ w_42) (ty := .boolean) (by decide) rfl rfl (g := (mkF m 28 #[.val (.ref a), .val (.ref sn), .val .null, .val .null, .val (.int (0 : Int32)), .val (.int (0 : Int32)), .val (.ref sd), .val .null] [(.int (0 : Int32)), (.ref a)])) rfl rfl (hb hby d9_28)
  refine Fin.go st16 ?_
  have N16 := Fr.snoc X16 N15 na
  have O16 := O15.wr W16 na
  have K16 := K15.wr W16 (Or.inl (List.mem_of_getElem? (i := 0) rfl))
  have F16_a_name := (F15_a_name.other W16 (Or.inr (slot_ne (Or.inr (hw _ w_53)) (Or.inr (hw _ w_61)) (by decide) (t := (.object "java/lang/String")) (t' := .boolean) (by decide) (by decide))))
  have F16_a_value := (F15_a_value.other W16 (Or.inr (slot_ne (Or.inr (hw _ w_55)) (Or.inr (hw _ w_61)) (by decide) (t := (.object "java/lang/String")) (t' := .boolean) (by decide) (by decide))))
  have F16_a_fallback := (F15_a_fallback.other W16 (Or.inr (slot_ne (Or.inr (hw _ w_57)) (Or.inr (hw _ w_61)) (by decide) (t := (.object "java/lang/String")) (t' := .boolean) (by decide) (by decide))))
  have F16_a_required := ((F14_a_required.same W15).other W16 (Or.inr (slot_ne (Or.inr (hw _ w_59)) (Or.inr (hw _ w_61)) (by decide) (t := .boolean) (t' := .boolean) (by decide) (by decide))))
  have F16_a_description := (F15_a_description.other W16 (Or.inr (slot_ne (Or.inr (hw _ w_63)) (Or.inr (hw _ w_61)) (by decide) (t := (.object "java/lang/String")) (t' := .boolean) (by decide) (by decide))))
  have F16_a_range := (F15_a_range.other W16 (Or.inr (slot_ne (Or.inr (hw _ w_65)) (Or.inr (hw _ w_61)) (by decide) (t := (.object "com/example/termspan/termspan/options/Option$Range")) (t' := .boolean) (by decide) (by decide))))
  show Fin _ p e below s _ _ _ T16 (mkF m 31 #[.val (.ref a), .val (.ref sn), .val .null, .val .null, .val (.int (0 : Int32)), .val (.int (0 : Int32)), .val (.ref sd), .val .null] [])
  refine Fin.go (fun _ k => XS.aloadN X16.here hx rfl (hb hby d9_31) rfl rfl k) ?_
  show Fin _ p e below s _ _ _ T16 (mkF m 32 #[.val (.ref a), .val (.ref sn), .val .null, .val .null, .val (.int (0 : Int32)), .val (.int (0 : Int32)), .val (.ref sd), .val .null] [(.ref a)])
  refine Fin.go (fun _ k => XS.aload X16.here hx rfl (hb hby d9_32) rfl rfl k) ?_
  show Fin _ p e below s _ _ _ T16 (mkF m 34 #[.val (.ref a), .val (.ref sn), .val .null, .val .null, .val (.int (0 : Int32)), .val (.int (0 : Int32)), .val (.ref sd), .val .null] [(.ref sd), (.ref a)])
  obtain ⟨T17, h17, X17, e17, W17, st17⟩ := putF X16 hx hZ hown (host := "") (Or.inl (hw _ w_62)) Via.refl e16 F16_a_description (((((A.wr W12).wr W13).wr W14).wr W15).wr W16) (Or.inr ⟨(hw _ w_63), rfl, hnm⟩) (hw _ w_42) (ty := (.object "java/lang/String")) (by decide) rfl rfl (g := (mkF m 34 #[.val (.ref a), .val (.ref sn), .val .null, .val .null, .val (.int (0 : Int32)), .val (.int (0 : Int32)), .val (.ref sd), .val .null] [(.ref sd), (.ref a)])) rfl rfl (hb hby d9_34)
  refine Fin.go st17 ?_
  have N17 := Fr.snoc X17 N16 na
  have O17 := O16.wr W17 na
  have K17 := K16.wr W17 (Or.inl (List.mem_of_getElem? (i := 0) rfl))
  have F17_a_name := (F16_a_name.other W17 (Or.inr (slot_ne (Or.inr (hw _ w_53)) (Or.inr (hw _ w_63)) (by decide) (t := (.object "java/lang/String")) (t' := (.object "java/lang/String")) (by decide) (by decide))))
  have F17_a_value := (F16_a_value.other W17 (Or.inr (slot_ne (Or.inr (hw _ w_55)) (Or.inr (hw _ w_63)) (by decide) (t := (.object "java/lang/String")) (t' := (.object "java/lang/String")) (by decide) (by decide))))
  have F17_a_fallback := (F16_a_fallback.other W17 (Or.inr (slot_ne (Or.inr (hw _ w_57)) (Or.inr (hw _ w_63)) (by decide) (t := (.object "java/lang/String")) (t' := (.object "java/lang/String")) (by decide) (by decide))))
  have F17_a_required := (F16_a_required.other W17 (Or.inr (slot_ne (Or.inr (hw _ w_59)) (Or.inr (hw _ w_63)) (by decide) (t := .boolean) (t' := (.object "java/lang/String")) (by decide) (by decide))))
  have F17_a_repeatable := ((F15_a_repeatable.same W16).other W17 (Or.inr (slot_ne (Or.inr (hw _ w_61)) (Or.inr (hw _ w_63)) (by decide) (t := .boolean) (t' := (.object "java/lang/String")) (by decide) (by decide))))
  have F17_a_range := (F16_a_range.other W17 (Or.inr (slot_ne (Or.inr (hw _ w_65)) (Or.inr (hw _ w_63)) (by decide) (t := (.object "com/example/termspan/termspan/options/Option$Range")) (t' := (.object "java/lang/String")) (by decide) (by decide))))
  show Fin _ p e below s _ _ _ T17 (mkF m 37 #[.val (.ref a), .val (.ref sn), .val .null, .val .null, .val (.int (0 : Int32)), .val (.int (0 : Int32)), .val (.ref sd), .val .null] [])
  refine Fin.go (fun _ k => XS.aloadN X17.here hx rfl (hb hby d9_37) rfl rfl k) ?_
  show Fin _ p e below s _ _ _ T17 (mkF m 38 #[.val (.ref a), .val (.ref sn), .val .null, .val .null, .val (.int (0 : Int32)), .val (.int (0 : Int32)), .val (.ref sd), .val .null] [(.ref a)])
  refine Fin.go (fun _ k => XS.aload X17.here hx rfl (hb hby d9_38) rfl rfl k) ?_
  show Fin _ p e below s _ _ _ T17 (mkF m 40 #[.val (.ref a), .val (.ref sn), .val .null, .val .null, .val (.int (0 : Int32)), .val (.int (0 : Int32)), .val (.ref sd), .val .null] [.null, (.ref a)])
  obtain ⟨T18, h18, X18, e18, W18, st18⟩ := putF X17 hx hZ hown (host := "") (Or.inl (hw _ w_64)) Via.refl e17 F17_a_range ((((((A.wr W12).wr W13).wr W14).wr W15).wr W16).wr W17) (Or.inr ⟨(hw _ w_65), rfl, hnm⟩) (hw _ w_42) (ty := (.object "com/example/termspan/termspan/options/Option$Range")) (by decide) rfl rfl (g := (mkF m 40 #[.val (.ref a), .val (.ref sn), .val .null, .val .null, .val (.int (0 : Int32)), .val (.int (0 : Int32)), .val (.ref sd), .val .null] [.null, (.ref a)])) rfl rfl (hb hby d9_40)
  refine Fin.go st18 ?_
  have N18 := Fr.snoc X18 N17 na
  have O18 := O17.wr W18 na
  have K18 := K17.wr W18 (Or.inl (List.mem_of_getElem? (i := 0) rfl))
  have A18_a := (((((((A.wr W12).wr W13).wr W14).wr W15).wr W16).wr W17).wr W18)
  have F18_a_name := (F17_a_name.other W18 (Or.inr (slot_ne (Or.inr (hw _ w_53)) (Or.inr (hw _ w_65)) (by decide) (t := (.object "java/lang/String")) (t' := (.object "com/example/termspan/termspan/options/Option$Range")) (by decide) (by decide))))
  have F18_a_value := (F17_a_value.other W18 (Or.inr (slot_ne (Or.inr (hw _ w_55)) (Or.inr (hw _ w_65)) (by decide) (t := (.object "java/lang/String")) (t' := (.object "com/example/termspan/termspan/options/Option$Range")) (by decide) (by decide))))
  have F18_a_fallback := (F17_a_fallback.other W18 (Or.inr (slot_ne (Or.inr (hw _ w_57)) (Or.inr (hw _ w_65)) (by decide) (t := (.object "java/lang/String")) (t' := (.object "com/example/termspan/termspan/options/Option$Range")) (by decide) (by decide))))
  have F18_a_required := (F17_a_required.other W18 (Or.inr (slot_ne (Or.inr (hw _ w_59)) (Or.inr (hw _ w_65)) (by decide) (t := .boolean) (t' := (.object "com/example/termspan/termspan/options/Option$Range")) (by decide) (by decide))))
  have F18_a_repeatable := (F17_a_repeatable.other W18 (Or.inr (slot_ne (Or.inr (hw _ w_61)) (Or.inr (hw _ w_65)) (by decide) (t := .boolean) (t' := (.object "com/example/termspan/termspan/options/Option$Range")) (by decide) (by decide))))
  have F18_a_description := ((F16_a_description.same W17).other W18 (Or.inr (slot_ne (Or.inr (hw _ w_63)) (Or.inr (hw _ w_65)) (by decide) (t := (.object "java/lang/String")) (t' := (.object "com/example/termspan/termspan/options/Option$Range")) (by decide) (by decide))))
  show Fin _ p e below s _ _ _ T18 (mkF m 43 #[.val (.ref a), .val (.ref sn), .val .null, .val .null, .val (.int (0 : Int32)), .val (.int (0 : Int32)), .val (.ref sd), .val .null] [])
  exact Fin.leaveN X18 e18 hlk (v := none) (fun _ => rfl) (by decide) (by decide) ⟨rfl, N18, K18, A18_a, F18_a_name, F18_a_value, F18_a_fallback, F18_a_required, F18_a_repeatable, F18_a_description, (F17_a_range.same W18)⟩ (fun fs hr => X18.returnOut hx hret (hb hby d9_43) hr)
set_option maxRecDepth 65536 in
set_option maxHeartbeats 40000000 in
theorem rmOpt (l : Launch) (Z : State) (a0 : Array Value) (hw : ∀ d ∈ tables_1, d.before a0 Z = true) (n0 : Nat) (h0 : Heap) (O : Old Z n0 h0) (sn sd : Addr) :
    ConW FrameEnd l Z [] (⟨"com/example/termspan/termspan/options/Option", "flag", "(Ljava/lang/String;Ljava/lang/String;)Lcom/example/termspan/termspan/options/Option;"⟩ : MethodName) prog_31_method_6_code 2 (some (.object "com/example/termspan/termspan/options/Option")) ({ frames := 3, cells := 1, slots := 7, locals := 44 } : Room) #[(.ref sn), (.ref sd)] h0 (fun v h L => ∃ o, v = some (.ref o) ∧ Fr n0 L ∧ Keep h0 h [] ∧ Exa Z h o "com/example/termspan/termspan/options/Option" ∧ Fld Z h o "com/example/termspan/termspan/options/Option" "name" "Ljava/lang/String;" (.ref sn) ∧ Fld Z h o "com/example/termspan/termspan/options/Option" "value" "Ljava/lang/String;" .null ∧ Fld Z h o "com/example/termspan/termspan/options/Option" "fallback" "Ljava/lang/String;" .null ∧ Fld Z h o "com/example/termspan/termspan/options/Option" "required" "Z" (.int (0 : Int32)) ∧ Fld Z h o "com/example/termspan/termspan/options/Option" "repeatable" "Z" (.int (0 : Int32)) ∧ Fld Z h o "com/example/termspan/termspan/options/Option" "description" "Ljava/lang/String;" (.ref sd) ∧ Fld Z h o "com/example/termspan/termspan/options/Option" "range" "Lcom/example/termspan/termspan/options/Option$Range;" .null) := by
  refine conOf (plainFor_of_name pn_com_example_termspan_termspan_options_Option) ?_
  intro p e s m below mth cc s₁ X0 hx hby hml hown hnm hret hlk hZ e0
  have N0 := Fr.nil n0
  have K0 := Keep.refl h0 ([] : List Addr)
  refine Fin.came (castTop (t := _) (by first | (simp [entryFrame, mkF, argsToLocals, Value.category]; done) | rfl) (Steps.refl _) : Steps p.tables e below (s₁.setTop (entryFrame m #[(.ref sn), (.ref sd)] 2)) (s₁.setTop (mkF m 0 #[.val (.ref sn), .val (.ref sd)] []))) ?_
  show Fin _ p e below s _ _ _ s₁ (mkF m 0 #[.val (.ref sn), .val (.ref sd)] [])
  obtain ⟨T11, h11, X11, e11, E11, A11, D11, U11, st11⟩ := newO X0 hx hZ hown (hw _ w_41) (hw _ w_42) (hw _ w_39) e0 (g := (mkF m 0 #[.val (.ref sn), .val (.ref sd)] [])) rfl (hb hby d8_0) (by decide) (by decide)
  obtain ⟨a11, g11⟩ : ∃ z, z = h0.size := ⟨_, rfl⟩
  rw [← g11] at A11 D11 U11 st11
  refine Fin.go st11 ?_
  have O11 := O.ext E11
  have K11 := K0.ext E11
  have n11 : n0 ≤ a11 := by have := O.2.1; have := O.1; omega
  have z11 : h0.size ≤ a11 := by have := K0.1; omega
  have F11_name : Fld Z h11 a11 "com/example/termspan/termspan/options/Option" "name" "Ljava/lang/String;" .null := D11 (Or.inr (hw _ w_53)) (ty := (.object "java/lang/String")) (by decide)
  have F11_value : Fld Z h11 a11 "com/example/termspan/termspan/options/Option" "value" "Ljava/lang/String;" .null := D11 (Or.inr (hw _ w_55)) (ty := (.object "java/lang/String")) (by decide)
  have F11_fallback : Fld Z h11 a11 "com/example/termspan/termspan/options/Option" "fallback" "Ljava/lang/String;" .null := D11 (Or.inr (hw _ w_57)) (ty := (.object "java/lang/String")) (by decide)
  have F11_required : Fld Z h11 a11 "com/example/termspan/termspan/options/Option" "required" "Z" (.int (0 : Int32)) := D11 (Or.inr (hw _ w_59)) (ty := .boolean) (by decide)
  have F11_repeatable : Fld Z h11 a11 "com/example/termspan/termspan/options/Option" "repeatable" "Z" (.int (0 : Int32)) := D11 (Or.inr (hw _ w_61)) (ty := .boolean) (by decide)
  have F11_description : Fld Z h11 a11 "com/example/termspan/termspan/options/Option" "description" "Ljava/lang/String;" .null := D11 (Or.inr (hw _ w_63)) (ty := (.object "java/lang/String")) (by decide)
  have F11_range : Fld Z h11 a11 "com/example/termspan/termspan/options/Option" "range" "Lcom/example/termspan/termspan/options/Option$Range;" .null := D11 (Or.inr (hw _ w_65)) (ty := (.object "com/example/termspan/termspan/options/Option$Range")) (by decide)
  show Fin _ p e below s _ _ _ T11 (mkF m 3 #[.val (.ref sn), .val (.ref sd)] [(.ref a11)])
  refine Fin.go (fun _ k => XS.dup X11.here hx rfl (hb hby d8_3) rfl rfl k) ?_
  show Fin _ p e below s _ _ _ T11 (mkF m 4 #[.val (.ref sn), .val (.ref sd)] [(.ref a11), (.ref a11)])
  refine Fin.go (fun _ k => XS.aloadN X11.here hx rfl (hb hby d8_4) rfl rfl k) ?_
  show Fin _ p e below s _ _ _ T11 (mkF m 5 #[.val (.ref sn), .val (.ref sd)] [(.ref sn), (.ref a11), (.ref a11)])
  refine Fin.go (fun _ k => XS.aconstNull X11.here hx rfl (hb hby d8_5) k) ?_
  show Fin _ p e below s _ _ _ T11 (mkF m 6 #[.val (.ref sn), .val (.ref sd)] [.null, (.ref sn), (.ref a11), (.ref a11)])
  refine Fin.go (fun _ k => XS.aconstNull X11.here hx rfl (hb hby d8_6) k) ?_
  show Fin _ p e below s _ _ _ T11 (mkF m 7 #[.val (.ref sn), .val (.ref sd)] [.null, .null, (.ref sn), (.ref a11), (.ref a11)])
  refine Fin.go (fun _ k => XS.iconst X11.here hx rfl (hb hby d8_7) k) ?_
  show Fin _ p e below s _ _ _ T11 (mkF m 8 #[.val (.ref sn), .val (.ref sd)] [(.int (0 : Int32)), .null, .null, (.ref sn), (.ref a11), (.ref a11)])
  refine Fin.go (fun _ k => XS.iconst X11.here hx rfl (hb hby d8_8) k) ?_
  show Fin _ p e below s _ _ _ T11 (mkF m 9 #[.val (.ref sn), .val (.ref sd)] [(.int (0 : Int32)), (.int (0 : Int32)), .null, .null, (.ref sn), (.ref a11), (.ref a11)])
  refine Fin.go (fun _ k => XS.aloadN X11.here hx rfl (hb hby d8_9) rfl rfl k) ?_
  show Fin _ p e below s _ _ _ T11 (mkF m 10 #[.val (.ref sn), .val (.ref sd)] [(.ref sd), (.int (0 : Int32)), (.int (0 : Int32)), .null, .null, (.ref sn), (.ref a11), (.ref a11)])
  refine Fin.go (fun _ k => XS.aconstNull X11.here hx rfl (hb hby d8_10) k) ?_
  show Fin _ p e below s _ _ _ T11 (mkF m 11 #[.val (.ref sn), .val (.ref sd)] [.null, (.ref sd), (.int (0 : Int32)), (.int (0 : Int32)), .null, .null, (.ref sn), (.ref a11), (.ref a11)])
  obtain ⟨v12, T12, L12, X12, q12, st12⟩ := callCt X11 hx hZ (y := (⟨"com/example/termspan/termspan/options/Option", "<init>", "(Ljava/lang/String;Ljava/lang/String;Ljava/lang/String;ZZLjava/lang/String;Lcom/example/termspan/termspan/options/Option$Range;)V"⟩ : MethodName)) rfl hown (hw _ w_43) (hw _ w_44) (hw _ w_39) (hw _ w_45) (by decide) (W := 1) (rmOI l Z a0 hw n0 h11 O11 a11 sn sd A11 F11_name F11_value F11_fallback F11_required F11_repeatable F11_description F11_range n11) e11 (by decide) (by decide) (by decide) (by decide) (g := (mkF m 11 #[.val (.ref sn), .val (.ref sd)] [.null, (.ref sd), (.int (0 : Int32)), (.int (0 : Int32)), .null, .null, (.ref sn), (.ref a11), (.ref a11)])) rfl (by rw [hml]; rfl) (a := a11) (argsL := [(.ref sn), .null, .null, (.int (0 : Int32)), (.int (0 : Int32)), (.ref sd), .null]) (rest := [(.ref a11)]) (lenOf pd_oLjava_lang_String_Ljava_lang_String_Ljava_lang_String_ZZLjava_lang_String_Lcom_example_termspan_termspan_options_OptionxRange_cV rfl) rfl (by show 2 * 0 + _ ≤ _; exact Nat.le_of_eq rfl) (hb hby d8_11)
  obtain ⟨rfl, Nq12, Kq12, A12, G12_name, G12_value, G12_fallback, G12_required, G12_repeatable, G12_description, G12_range⟩ := q12
  have N12 := Fr.app N0 Nq12
  have O12 := O11.keep Kq12 (allS n11 all0)
  have K12 := K11.trans Kq12 (allS (Or.inr z11) all0)
  refine Fin.go st12 ?_
  show Fin _ p e below s _ _ _ T12 (mkF m 14 #[.val (.ref sn), .val (.ref sd)] [(.ref a11)])
  exact Fin.leaveN X12 (rfl : T12.heap = T12.heap) hlk (v := some (.ref a11)) (fun h => by rw [hret] at h; cases h) (by decide) (by decide) ⟨a11, rfl, N12, K12, A12, G12_name, G12_value, G12_fallback, G12_required, G12_repeatable, G12_description, G12_range⟩ (fun fs hr => retOut X12 hx hret rfl (Or.inr (Or.inr (Or.inr (Or.inr ⟨rfl, rfl, rfl⟩)))) (hb hby d8_14) hr)
set_option maxRecDepth 65536 in
set_option maxHeartbeats 40000000 in
theorem rmG_name (l : Launch) (Z : State) (a0 : Array Value) (hw : ∀ d ∈ tables_1, d.before a0 Z = true) (n0 : Nat) (h0 : Heap) (O : Old Z n0 h0) (a b : Addr) (F : Fld Z h0 a "com/example/termspan/termspan/options/Option" "name" "Ljava/lang/String;" (.ref b)) :
    ConW FrameEnd l Z [] (⟨"com/example/termspan/termspan/options/Option", "name", "()Ljava/lang/String;"⟩ : MethodName) prog_31_method_20_code 1 (some (.object "java/lang/String")) ({ frames := 0, cells := 0, slots := 0, locals := 0 } : Room) #[(.ref a)] h0 (Pure h0 (some (.ref b))) := by
  refine conOf (plainFor_of_name pn_com_example_termspan_termspan_options_Option) ?_
  intro p e s m below mth cc s₁ X0 hx hby hml hown hnm hret hlk hZ e0
  have N0 := Fr.nil n0
  refine Fin.came (castTop (t := _) (by first | (simp [entryFrame, mkF, argsToLocals, Value.category]; done) | rfl) (Steps.refl _) : Steps p.tables e below (s₁.setTop (entryFrame m #[(.ref a)] 1)) (s₁.setTop (mkF m 0 #[.val (.ref a)] []))) ?_
  show Fin _ p e below s _ _ _ s₁ (mkF m 0 #[.val (.ref a)] [])
  refine Fin.go (fun _ k => XS.aloadN X0.here hx rfl (hb hby d11_0) rfl rfl k) ?_
  show Fin _ p e below s _ _ _ s₁ (mkF m 1 #[.val (.ref a)] [(.ref a)])
  obtain ⟨T11, X11, e11, st11⟩ := getF X0 hx hZ hown (host := "") (Or.inl (hw _ w_52)) Via.refl e0 F (g := (mkF m 1 #[.val (.ref a)] [(.ref a)])) rfl rfl (hb hby d11_1)
  refine Fin.go st11 ?_
  show Fin _ p e below s _ _ _ T11 (mkF m 4 #[.val (.ref a)] [(.ref b)])
  exact Fin.leaveN X11 e11 hlk (v := some (.ref b)) (fun h => by rw [hret] at h; cases h) (by decide) (by decide) ⟨rfl, rfl, rfl⟩ (fun fs hr => retOut X11 hx hret rfl (Or.inr (Or.inr (Or.inr (Or.inr ⟨rfl, rfl, rfl⟩)))) (hb hby d11_4) hr)
set_option maxRecDepth 65536 in
set_option maxHeartbeats 40000000 in
theorem rmG_description (l : Launch) (Z : State) (a0 : Array Value) (hw : ∀ d ∈ tables_1, d.before a0 Z = true) (n0 : Nat) (h0 : Heap) (O : Old Z n0 h0) (a b : Addr) (F : Fld Z h0 a "com/example/termspan/termspan/options/Option" "description" "Ljava/lang/String;" (.ref b)) :
    ConW FrameEnd l Z [] (⟨"com/example/termspan/termspan/options/Option", "description", "()Ljava/lang/String;"⟩ : MethodName) prog_31_method_25_code 1 (some (.object "java/lang/String")) ({ frames := 0, cells := 0, slots := 0, locals := 0 } : Room) #[(.ref a)] h0 (Pure h0 (some (.ref b))) := by
  refine conOf (plainFor_of_name pn_com_example_termspan_termspan_options_Option) ?_
  intro p e s m below mth cc s₁ X0 hx hby hml hown hnm hret hlk hZ e0
  have N0 := Fr.nil n0
  refine Fin.came (castTop (t := _) (by first | (simp [entryFrame, mkF, argsToLocals, Value.category]; done) | rfl) (Steps.refl _) : Steps p.tables e below (s₁.setTop (entryFrame m #[(.ref a)] 1)) (s₁.setTop (mkF m 0 #[.val (.ref a)] []))) ?_
  show Fin _ p e below s _ _ _ s₁ (mkF m 0 #[.val (.ref a)] [])
  refine Fin.go (fun _ k => XS.aloadN X0.here hx rfl (hb hby d13_0) rfl rfl k) ?_
  show Fin _ p e below s _ _ _ s₁ (mkF m 1 #[.val (.ref a)] [(.ref a)])
  obtain ⟨T11, X11, e11, st11⟩ := getF X0 hx hZ hown (host := "") (Or.inl (hw _ w_62)) Via.refl e0 F (g := (mkF m 1 #[.val (.ref a)] [(.ref a)])) rfl rfl (hb hby d13_1)
  refine Fin.go st11 ?_
  show Fin _ p e below s _ _ _ T11 (mkF m 4 #[.val (.ref a)] [(.ref b)])
  exact Fin.leaveN X11 e11 hlk (v := some (.ref b)) (fun h => by rw [hret] at h; cases h) (by decide) (by decide) ⟨rfl, rfl, rfl⟩ (fun fs hr => retOut X11 hx hret rfl (Or.inr (Or.inr (Or.inr (Or.inr ⟨rfl, rfl, rfl⟩)))) (hb hby d13_4) hr)
set_option maxRecDepth 65536 in
set_option maxHeartbeats 40000000 in
theorem rmG_value (l : Launch) (Z : State) (a0 : Array Value) (hw : ∀ d ∈ tables_1, d.before a0 Z = true) (n0 : Nat) (h0 : Heap) (O : Old Z n0 h0) (a : Addr) (F : Fld Z h0 a "com/example/termspan/termspan/options/Option" "value" "Ljava/lang/String;" .null) :
    ConW FrameEnd l Z [] (⟨"com/example/termspan/termspan/options/Option", "value", "()Ljava/lang/String;"⟩ : MethodName) prog_31_method_21_code 1 (some (.object "java/lang/String")) ({ frames := 0, cells := 0, slots := 0, locals := 0 } : Room) #[(.ref a)] h0 (Pure h0 (some .null)) := by
  refine conOf (plainFor_of_name pn_com_example_termspan_termspan_options_Option) ?_
  intro p e s m below mth cc s₁ X0 hx hby hml hown hnm hret hlk hZ e0
  have N0 := Fr.nil n0
  refine Fin.came (castTop (t := _) (by first | (simp [entryFrame, mkF, argsToLocals, Value.category]; done) | rfl) (Steps.refl _) : Steps p.tables e below (s₁.setTop (entryFrame m #[(.ref a)] 1)) (s₁.setTop (mkF m 0 #[.val (.ref a)] []))) ?_
  show Fin _ p e below s _ _ _ s₁ (mkF m 0 #[.val (.ref a)] [])
  refine Fin.go (fun _ k => XS.aloadN X0.here hx rfl (hb hby d14_0) rfl rfl k) ?_
  show Fin _ p e below s _ _ _ s₁ (mkF m 1 #[.val (.ref a)] [(.ref a)])
  obtain ⟨T11, X11, e11, st11⟩ := getF X0 hx hZ hown (host := "") (Or.inl (hw _ w_54)) Via.refl e0 F (g := (mkF m 1 #[.val (.ref a)] [(.ref a)])) rfl rfl (hb hby d14_1)
  refine Fin.go st11 ?_
  show Fin _ p e below s _ _ _ T11 (mkF m 4 #[.val (.ref a)] [.null])
  exact Fin.leaveN X11 e11 hlk (v := some .null) (fun h => by rw [hret] at h; cases h) (by decide) (by decide) ⟨rfl, rfl, rfl⟩ (fun fs hr => retOut X11 hx hret rfl (Or.inr (Or.inr (Or.inr (Or.inr ⟨rfl, rfl, rfl⟩)))) (hb hby d14_4) hr)
set_option maxRecDepth 65536 in
set_option maxHeartbeats 40000000 in
theorem rmG_fallback (l : Launch) (Z : State) (a0 : Array Value) (hw : ∀ d ∈ tables_1, d.before a0 Z = true) (n0 : Nat) (h0 : Heap) (O : Old Z n0 h0) (a : Addr) (F : Fld Z h0 a "com/example/termspan/termspan/options/Option" "fallback" "Ljava/lang/String;" .null) :
    ConW FrameEnd l Z [] (⟨"com/example/termspan/termspan/options/Option", "fallback", "()Ljava/lang/String;"⟩ : MethodName) prog_31_method_22_code 1 (some (.object "java/lang/String")) ({ frames := 0, cells := 0, slots := 0, locals := 0 } : Room) #[(.ref a)] h0 (Pure h0 (some .null)) := by
  refine conOf (plainFor_of_name pn_com_example_termspan_termspan_options_Option) ?_
  intro p e s m below mth cc s₁ X0 hx hby hml hown hnm hret hlk hZ e0
  have N0 := Fr.nil n0
  refine Fin.came (castTop (t := _) (by first | (simp [entryFrame, mkF, argsToLocals, Value.category]; done) | rfl) (Steps.refl _) : Steps p.tables e below (s₁.setTop (entryFrame m #[(.ref a)] 1)) (s₁.setTop (mkF m 0 #[.val (.ref a)] []))) ?_
  show Fin _ p e below s _ _ _ s₁ (mkF m 0 #[.val (.ref a)] [])
  refine Fin.go (fun _ k => XS.aloadN X0.here hx rfl (hb hby d15_0) rfl rfl k) ?_
  show Fin _ p e below s _ _ _ s₁ (mkF m 1 #[.val (.ref a)] [(.ref a)])
  obtain ⟨T11, X11, e11, st11⟩ := getF X0 hx hZ hown (host := "") (Or.inl (hw _ w_56)) Via.refl e0 F (g := (mkF m 1 #[.val (.ref a)] [(.ref a)])) rfl rfl (hb hby d15_1)
  refine Fin.go st11 ?_
  show Fin _ p e below s _ _ _ T11 (mkF m 4 #[.val (.ref a)] [.null])
  exact Fin.leaveN X11 e11 hlk (v := some .null) (fun h => by rw [hret] at h; cases h) (by decide) (by decide) ⟨rfl, rfl, rfl⟩ (fun fs hr => retOut X11 hx hret rfl (Or.inr (Or.inr (Or.inr (Or.inr ⟨rfl, rfl, rfl⟩)))) (hb hby d15_4) hr)
set_option maxRecDepth 65536 in
set_option maxHeartbeats 40000000 in
theorem rmG_range (l : Launch) (Z : State) (a0 : Array Value) (hw : ∀ d ∈ tables_1, d.before a0 Z = true) (n0 : Nat) (h0 : Heap) (O : Old Z n0 h0) (a : Addr) (F : Fld Z h0 a "com/example/termspan/termspan/options/Option" "range" "Lcom/example/termspan/termspan/options/Option$Range;" .null) :
    ConW FrameEnd l Z [] (⟨"com/example/termspan/termspan/options/Option", "range", "()Lcom/example/termspan/termspan/options/Option$Range;"⟩ : MethodName) prog_31_method_26_code 1 (some (.object "com/example/termspan/termspan/options/Option$Range")) ({ frames := 0, cells := 0, slots := 0, locals := 0 } : Room) #[(.ref a)] h0 (Pure h0 (some .null)) := by
  refine conOf (plainFor_of_name pn_com_example_termspan_termspan_options_Option) ?_
  intro p e s m below mth cc s₁ X0 hx hby hml hown hnm hret hlk hZ e0
  have N0 := Fr.nil n0
  refine Fin.came (castTop (t := _) (by first | (simp [entryFrame, mkF, argsToLocals, Value.category]; done) | rfl) (Steps.refl _) : Steps p.tables e below (s₁.setTop (entryFrame m #[(.ref a)] 1)) (s₁.setTop (mkF m 0 #[.val (.ref a)] []))) ?_
  show Fin _ p e below s _ _ _ s₁ (mkF m 0 #[.val (.ref a)] [])
  refine Fin.go (fun _ k => XS.aloadN X0.here hx rfl (hb hby d18_0) rfl rfl k) ?_
  show Fin _ p e below s _ _ _ s₁ (mkF m 1 #[.val (.ref a)] [(.ref a)])
  obtain ⟨T11, X11, e11, st11⟩ := getF X0 hx hZ hown (host := "") (Or.inl (hw _ w_64)) Via.refl e0 F (g := (mkF m 1 #[.val (.ref a)] [(.ref a)])) rfl rfl (hb hby d18_1)
  refine Fin.go st11 ?_
  show Fin _ p e below s _ _ _ T11 (mkF m 4 #[.val (.ref a)] [.null])
  exact Fin.leaveN X11 e11 hlk (v := some .null) (fun h => by rw [hret] at h; cases h) (by decide) (by decide) ⟨rfl, rfl, rfl⟩ (fun fs hr => retOut X11 hx hret rfl (Or.inr (Or.inr (Or.inr (Or.inr ⟨rfl, rfl, rfl⟩)))) (hb hby d18_4) hr)
set_option maxRecDepth 65536 in
set_option maxHeartbeats 40000000 in
theorem rmG_required (l : Launch) (Z : State) (a0 : Array Value) (hw : ∀ d ∈ tables_1, d.before a0 Z = true) (n0 : Nat) (h0 : Heap) (O : Old Z n0 h0) (a : Addr) (F : Fld Z h0 a "com/example/termspan/termspan/options/Option" "required" "Z" (.int (0 : Int32))) :
    ConW FrameEnd l Z [] (⟨"com/example/termspan/termspan/options/Option", "required", "()Z"⟩ : MethodName) prog_31_method_23_code 1 (some .boolean) ({ frames := 0, cells := 0, slots := 0, locals := 0 } : Room) #[(.ref a)] h0 (Pure h0 (some (.int (0 : Int32)))) := by
  refine conOf (plainFor_of_name pn_com_example_termspan_termspan_options_Option) ?_
  intro p e s m below mth cc s₁ X0 hx hby hml hown hnm hret hlk hZ e0
  have N0 := Fr.nil n0
  refine Fin.came (castTop (t := _) (by first | (simp [entryFrame, mkF, argsToLocals, Value.category]; done) | rfl) (Steps.refl _) : Steps p.tables e below (s₁.setTop (entryFrame m #[(.ref a)] 1)) (s₁.setTop (mkF m 0 #[.val (.ref a)] []))) ?_
  show Fin _ p e below s _ _ _ s₁ (mkF m 0 #[.val (.ref a)] [])
  refine Fin.go (fun _ k => XS.aloadN X0.here hx rfl (hb hby d16_0) rfl rfl k) ?_
  show Fin _ p e below s _ _ _ s₁ (mkF m 1 #[.val (.ref a)] [(.ref a)])
  obtain ⟨T11, X11, e11, st11⟩ := getF X0 hx hZ hown (host := "") (Or.inl (hw _ w_58)) Via.refl e0 F (g := (mkF m 1 #[.val (.ref a)] [(.ref a)])) rfl rfl (hb hby d16_1)
  refine Fin.go st11 ?_
  show Fin _ p e below s _ _ _ T11 (mkF m 4 #[.val (.ref a)] [(.int (0 : Int32))])
  exact Fin.leaveN X11 e11 hlk (v := some (.int (nar .boolean (0 : Int32)))) (fun h => by rw [hret] at h; cases h) (by decide) (by decide) ⟨rfl, rfl, rfl⟩ (fun fs hr => retN X11 hx (t := .boolean) hret (by simp) (hb hby d16_4) hr)
set_option maxRecDepth 65536 in
set_option maxHeartbeats 40000000 in
theorem rmG_repeatable (l : Launch) (Z : State) (a0 : Array Value) (hw : ∀ d ∈ tables_1, d.before a0 Z = true) (n0 : Nat) (h0 : Heap) (O : Old Z n0 h0) (a : Addr) (F : Fld Z h0 a "com/example/termspan/termspan/options/Option" "repeatable" "Z" (.int (0 : Int32))) :
    ConW FrameEnd l Z [] (⟨"com/example/termspan/termspan/options/Option", "repeatable", "()Z"⟩ : MethodName) prog_31_method_24_code 1 (some .boolean) ({ frames := 0, cells := 0, slots := 0, locals := 0 } : Room) #[(.ref a)] h0 (Pure h0 (some (.int (0 : Int32)))) := by
  refine conOf (plainFor_of_name pn_com_example_termspan_termspan_options_Option) ?_
  intro p e s m below mth cc s₁ X0 hx hby hml hown hnm hret hlk hZ e0
  have N0 := Fr.nil n0
  refine Fin.came (castTop (t := _) (by first | (simp [entryFrame, mkF, argsToLocals, Value.category]; done) | rfl) (Steps.refl _) : Steps p.tables e below (s₁.setTop (entryFrame m #[(.ref a)] 1)) (s₁.setTop (mkF m 0 #[.val (.ref a)] []))) ?_
  show Fin _ p e below s _ _ _ s₁ (mkF m 0 #[.val (.ref a)] [])
  refine Fin.go (fun _ k => XS.aloadN X0.here hx rfl (hb hby d17_0) rfl rfl k) ?_
  show Fin _ p e below s _ _ _ s₁ (mkF m 1 #[.val (.ref a)] [(.ref a)])
  obtain ⟨T11, X11, e11, st11⟩ := getF X0 hx hZ hown (host := "") (Or.inl (hw _ w_60)) Via.refl e0 F (g := (mkF m 1 #[.val (.ref a)] [(.ref a)])) rfl rfl (hb hby d17_1)
  refine Fin.go st11 ?_
  show Fin _ p e below s _ _ _ T11 (mkF m 4 #[.val (.ref a)] [(.int (0 : Int32))])
  exact Fin.leaveN X11 e11 hlk (v := some (.int (nar .boolean (0 : Int32)))) (fun h => by rw [hret] at h; cases h) (by decide) (by decide) ⟨rfl, rfl, rfl⟩ (fun fs hr => retN X11 hx (t := .boolean) hret (by simp) (hb hby d17_4) hr)
set_option maxRecDepth 65536 in
set_option maxHeartbeats 40000000 in
theorem rmFl (l : Launch) (Z : State) (a0 : Array Value) (hw : ∀ d ∈ tables_1, d.before a0 Z = true) (n0 : Nat) (h0 : Heap) (O : Old Z n0 h0) (a : Addr) (F : Fld Z h0 a "com/example/termspan/termspan/options/Option" "value" "Ljava/lang/String;" .null) :
    ConW FrameEnd l Z [] (⟨"com/example/termspan/termspan/options/Option", "isFlag", "()Z"⟩ : MethodName) prog_31_method_12_code 1 (some .boolean) ({ frames := 0, cells := 0, slots := 0, locals := 0 } : Room) #[(.ref a)] h0 (Pure h0 (some (.int (1 : Int32)))) := by
  refine conOf (plainFor_of_name pn_com_example_termspan_termspan_options_Option) ?_
  intro p e s m below mth cc s₁ X0 hx hby hml hown hnm hret hlk hZ e0
  have N0 := Fr.nil n0
  refine Fin.came (castTop (t := _) (by first | (simp [entryFrame, mkF, argsToLocals, Value.category]; done) | rfl) (Steps.refl _) : Steps p.tables e below (s₁.setTop (entryFrame m #[(.ref a)] 1)) (s₁.setTop (mkF m 0 #[.val (.ref a)] []))) ?_
  show Fin _ p e below s _ _ _ s₁ (mkF m 0 #[.val (.ref a)] [])
  refine Fin.go (fun _ k => XS.aloadN X0.here hx rfl (hb hby d19_0) rfl rfl k) ?_
  show Fin _ p e below s _ _ _ s₁ (mkF m 1 #[.val (.ref a)] [(.ref a)])
  obtain ⟨T11, X11, e11, st11⟩ := getF X0 hx hZ hown (host := "") (Or.inl (hw _ w_54)) Via.refl e0 F (g := (mkF m 1 #[.val (.ref a)] [(.ref a)])) rfl rfl (hb hby d19_1)
  refine Fin.go st11 ?_
  show Fin _ p e below s _ _ _ T11 (mkF m 4 #[.val (.ref a)] [.null])
  refine Fin.go (fun _ k => XT.ifnonnullNo X11.here hx rfl (hb hby d19_4) rfl k) ?_
  show Fin _ p e below s _ _ _ T11 (mkF m 7 #[.val (.ref a)] [])
  refine Fin.go (fun _ k => XS.iconst X11.here hx rfl (hb hby d19_7) k) ?_
  show Fin _ p e below s _ _ _ T11 (mkF m 8 #[.val (.ref a)] [(.int (1 : Int32))])
  refine Fin.go (fun _ k => XS.goto X11.here hx rfl (pc0 := 8) (pc' := 12) rfl (hb hby d19_8) (by decide) (by decide) k) ?_
  show Fin _ p e below s _ _ _ T11 (mkF m 12 #[.val (.ref a)] [(.int (1 : Int32))])
  exact Fin.leaveN X11 e11 hlk (v := some (.int (nar .boolean (1 : Int32)))) (fun h => by rw [hret] at h; cases h) (by decide) (by decide) ⟨rfl, rfl, rfl⟩ (fun fs hr => retN X11 hx (t := .boolean) hret (by simp) (hb hby d19_12) hr)
set_option maxRecDepth 65536 in
set_option maxHeartbeats 40000000 in
theorem law (l : Launch) (Z : State) (a0 : Array Value) (hw : ∀ d ∈ tables_1, d.before a0 Z = true) (n0 : Nat) (h0 : Heap) (O : Old Z n0 h0) (p0 p1 p2 : Int32) (cs : Int32) (S_cs : Sta Z Z.heap "java/lang/String" "COMPACT_STRINGS" "Z" (.int cs)) (hcs : ¬ cs = 0) :
    ConHW l Z EL tables_1 x code maxLocals ret room_1 #[(.int p0), (.int p1), (.int p2)] h0 (fun v h L => v = some (.int 1) ∧ Fr n0 L) := by
  refine conOfH (plainFor_of_name pn_com_example_termspan_termspan_options_OptionFlagPinLaw) ?_
  intro p e s m below mth cc s₁ X0 hx hby hml hown hnm hret hlk hZ e0 hS RR0
  have N0 := Fr.nil n0
  have hEL := elW hw
  refine Fin.came (castTop (t := _) (by first | (simp [entryFrame, mkF, argsToLocals, Value.category, maxLocals]; done) | rfl) (Steps.refl _) : Steps p.tables e below (s₁.setTop (entryFrame m #[(.int p0), (.int p1), (.int p2)] maxLocals)) (s₁.setTop (mkF m 0 #[.val (.int p0), .val (.int p1), .val (.int p2), .unset, .unset, .unset, .unset, .unset, .unset, .unset] []))) ?_
  show Fin _ p e below s _ _ _ s₁ (mkF m 0 #[.val (.int p0), .val (.int p1), .val (.int p2), .unset, .unset, .unset, .unset, .unset, .unset, .unset] [])
  refine Fin.go (fun _ k => XS.iloadN X0.here hx rfl (hb hby at_0) rfl k) ?_
  show Fin _ p e below s _ _ _ s₁ (mkF m 1 #[.val (.int p0), .val (.int p1), .val (.int p2), .unset, .unset, .unset, .unset, .unset, .unset, .unset] [(.int p2)])
  refine Fin.go (fun _ k => XS.sipush X0.here hx rfl (hb hby at_1) k) ?_
  show Fin _ p e below s _ _ _ s₁ (mkF m 4 #[.val (.int p0), .val (.int p1), .val (.int p2), .unset, .unset, .unset, .unset, .unset, .unset, .unset] [(.int (32767 : Int32)), (.int p2)])
  refine Fin.go (fun _ k => XS.iand X0.here hx rfl (hb hby at_4) rfl k) ?_
  show Fin _ p e below s _ _ _ s₁ (mkF m 5 #[.val (.int p0), .val (.int p1), .val (.int p2), .unset, .unset, .unset, .unset, .unset, .unset, .unset] [(.int (p2 &&& (32767 : Int32)))])
  refine Fin.go (fun _ k => XS.iconst X0.here hx rfl (hb hby at_5) k) ?_
  show Fin _ p e below s _ _ _ s₁ (mkF m 6 #[.val (.int p0), .val (.int p1), .val (.int p2), .unset, .unset, .unset, .unset, .unset, .unset, .unset] [(.int (3 : Int32)), (.int (p2 &&& (32767 : Int32)))])
  refine Fin.go (fun _ k => iremM X0 hx rfl (hb hby at_6) rfl (by decide) k) ?_
  show Fin _ p e below s _ _ _ s₁ (mkF m 7 #[.val (.int p0), .val (.int p1), .val (.int p2), .unset, .unset, .unset, .unset, .unset, .unset, .unset] [(.int ((p2 &&& (32767 : Int32)) % (3 : Int32)))])
  refine Fin.go (fun _ k => XS.istoreN X0.here hx rfl (hb hby at_7) rfl (l' := #[.val (.int p0), .val (.int p1), .val (.int p2), .val (.int ((p2 &&& (32767 : Int32)) % (3 : Int32))), .unset, .unset, .unset, .unset, .unset, .unset]) rfl k) ?_
  show Fin _ p e below s _ _ _ s₁ (mkF m 8 #[.val (.int p0), .val (.int p1), .val (.int p2), .val (.int ((p2 &&& (32767 : Int32)) % (3 : Int32))), .unset, .unset, .unset, .unset, .unset, .unset] [])
  refine Fin.go (fun _ k => XS.iloadN X0.here hx rfl (hb hby at_8) rfl k) ?_
  show Fin _ p e below s _ _ _ s₁ (mkF m 9 #[.val (.int p0), .val (.int p1), .val (.int p2), .val (.int ((p2 &&& (32767 : Int32)) % (3 : Int32))), .unset, .unset, .unset, .unset, .unset, .unset] [(.int p2)])
  refine Fin.go (fun _ k => XS.bipush X0.here hx rfl (hb hby at_9) k) ?_
  show Fin _ p e below s _ _ _ s₁ (mkF m 11 #[.val (.int p0), .val (.int p1), .val (.int p2), .val (.int ((p2 &&& (32767 : Int32)) % (3 : Int32))), .unset, .unset, .unset, .unset, .unset, .unset] [(.int (16 : Int32)), (.int p2)])
  refine Fin.go (fun _ k => XT.iushr X0.here hx rfl (hb hby at_11) rfl k) ?_
  show Fin _ p e below s _ _ _ s₁ (mkF m 12 #[.val (.int p0), .val (.int p1), .val (.int p2), .val (.int ((p2 &&& (32767 : Int32)) % (3 : Int32))), .unset, .unset, .unset, .unset, .unset, .unset] [(.int (XT.ushr p2 (16 : Int32)))])
  refine Fin.go (fun _ k => XS.sipush X0.here hx rfl (hb hby at_12) k) ?_
  show Fin _ p e below s _ _ _ s₁ (mkF m 15 #[.val (.int p0), .val (.int p1), .val (.int p2), .val (.int ((p2 &&& (32767 : Int32)) % (3 : Int32))), .unset, .unset, .unset, .unset, .unset, .unset] [(.int (32767 : Int32)), (.int (XT.ushr p2 (16 : Int32)))])
  refine Fin.go (fun _ k => XS.iand X0.here hx rfl (hb hby at_15) rfl k) ?_
  show Fin _ p e below s _ _ _ s₁ (mkF m 16 #[.val (.int p0), .val (.int p1), .val (.int p2), .val (.int ((p2 &&& (32767 : Int32)) % (3 : Int32))), .unset, .unset, .unset, .unset, .unset, .unset] [(.int ((XT.ushr p2 (16 : Int32)) &&& (32767 : Int32)))])
  refine Fin.go (fun _ k => XS.iconst X0.here hx rfl (hb hby at_16) k) ?_
  show Fin _ p e below s _ _ _ s₁ (mkF m 17 #[.val (.int p0), .val (.int p1), .val (.int p2), .val (.int ((p2 &&& (32767 : Int32)) % (3 : Int32))), .unset, .unset, .unset, .unset, .unset, .unset] [(.int (3 : Int32)), (.int ((XT.ushr p2 (16 : Int32)) &&& (32767 : Int32)))])
  refine Fin.go (fun _ k => iremM X0 hx rfl (hb hby at_17) rfl (by decide) k) ?_
  show Fin _ p e below s _ _ _ s₁ (mkF m 18 #[.val (.int p0), .val (.int p1), .val (.int p2), .val (.int ((p2 &&& (32767 : Int32)) % (3 : Int32))), .unset, .unset, .unset, .unset, .unset, .unset] [(.int (((XT.ushr p2 (16 : Int32)) &&& (32767 : Int32)) % (3 : Int32)))])
  refine Fin.go (fun _ k => XS.istore X0.here hx rfl (hb hby at_18) rfl (l' := #[.val (.int p0), .val (.int p1), .val (.int p2), .val (.int ((p2 &&& (32767 : Int32)) % (3 : Int32))), .val (.int (((XT.ushr p2 (16 : Int32)) &&& (32767 : Int32)) % (3 : Int32))), .unset, .unset, .unset, .unset, .unset]) rfl k) ?_
  show Fin _ p e below s _ _ _ s₁ (mkF m 20 #[.val (.int p0), .val (.int p1), .val (.int p2), .val (.int ((p2 &&& (32767 : Int32)) % (3 : Int32))), .val (.int (((XT.ushr p2 (16 : Int32)) &&& (32767 : Int32)) % (3 : Int32))), .unset, .unset, .unset, .unset, .unset] [])
  refine Fin.go (fun _ k => XS.iloadN X0.here hx rfl (hb hby at_20) rfl k) ?_
  show Fin _ p e below s _ _ _ s₁ (mkF m 21 #[.val (.int p0), .val (.int p1), .val (.int p2), .val (.int ((p2 &&& (32767 : Int32)) % (3 : Int32))), .val (.int (((XT.ushr p2 (16 : Int32)) &&& (32767 : Int32)) % (3 : Int32))), .unset, .unset, .unset, .unset, .unset] [(.int ((p2 &&& (32767 : Int32)) % (3 : Int32)))])
  refine Fin.go (fun _ k => XS.iloadN X0.here hx rfl (hb hby at_21) rfl k) ?_
  show Fin _ p e below s _ _ _ s₁ (mkF m 22 #[.val (.int p0), .val (.int p1), .val (.int p2), .val (.int ((p2 &&& (32767 : Int32)) % (3 : Int32))), .val (.int (((XT.ushr p2 (16 : Int32)) &&& (32767 : Int32)) % (3 : Int32))), .unset, .unset, .unset, .unset, .unset] [(.int p0), (.int ((p2 &&& (32767 : Int32)) % (3 : Int32)))])
  obtain ⟨v11, T11, L11, X11, hS11, hZ11, hown11, RC11, q11, st11⟩ := callStH X0 hx hZ (y := (⟨"com/example/termspan/termspan/options/OptionFlagPinLaw", "draw", "(II)Ljava/lang/String;"⟩ : MethodName)) hown (hw _ w_0) (hw _ w_1) (hw _ w_2) (hw _ w_3) (by decide) (W := 0) (rmDraw l Z a0 hw n0 h0 O ((p2 &&& (32767 : Int32)) % (3 : Int32)) p0 cs S_cs hcs) e0 hS (Nat.zero_le _) hEL RR0.1 (by decide) (by decide) (by decide) (by decide) (g := (mkF m 22 #[.val (.int p0), .val (.int p1), .val (.int p2), .val (.int ((p2 &&& (32767 : Int32)) % (3 : Int32))), .val (.int (((XT.ushr p2 (16 : Int32)) &&& (32767 : Int32)) % (3 : Int32))), .unset, .unset, .unset, .unset, .unset] [(.int p0), (.int ((p2 &&& (32767 : Int32)) % (3 : Int32)))])) rfl (by rw [hml]; rfl) (argsL := [(.int ((p2 &&& (32767 : Int32)) % (3 : Int32))), (.int p0)]) (rest := []) (lenOf pd_oIIcLjava_lang_String_ rfl) rfl (by show 2 * 0 + _ ≤ _; exact Nat.le_of_eq rfl) (hb hby at_22)
  obtain ⟨a11, rfl, Nq11, Kq11, A11⟩ := q11
  have N11 := Fr.app N0 Nq11
  have O11 := O.keep Kq11 all0
  have RR11 := RR0.trans RC11
  refine Fin.go st11 ?_
  show Fin _ p e below s _ _ _ T11 (mkF m 25 #[.val (.int p0), .val (.int p1), .val (.int p2), .val (.int ((p2 &&& (32767 : Int32)) % (3 : Int32))), .val (.int (((XT.ushr p2 (16 : Int32)) &&& (32767 : Int32)) % (3 : Int32))), .unset, .unset, .unset, .unset, .unset] [(.ref a11)])
  refine Fin.go (fun _ k => XS.astore X11.here hx rfl (hb hby at_25) rfl rfl (l' := #[.val (.int p0), .val (.int p1), .val (.int p2), .val (.int ((p2 &&& (32767 : Int32)) % (3 : Int32))), .val (.int (((XT.ushr p2 (16 : Int32)) &&& (32767 : Int32)) % (3 : Int32))), .val (.ref a11), .unset, .unset, .unset, .unset]) rfl k) ?_
  show Fin _ p e below s _ _ _ T11 (mkF m 27 #[.val (.int p0), .val (.int p1), .val (.int p2), .val (.int ((p2 &&& (32767 : Int32)) % (3 : Int32))), .val (.int (((XT.ushr p2 (16 : Int32)) &&& (32767 : Int32)) % (3 : Int32))), .val (.ref a11), .unset, .unset, .unset, .unset] [])
  refine Fin.go (fun _ k => XS.iload X11.here hx rfl (hb hby at_27) rfl k) ?_
  show Fin _ p e below s _ _ _ T11 (mkF m 29 #[.val (.int p0), .val (.int p1), .val (.int p2), .val (.int ((p2 &&& (32767 : Int32)) % (3 : Int32))), .val (.int (((XT.ushr p2 (16 : Int32)) &&& (32767 : Int32)) % (3 : Int32))), .val (.ref a11), .unset, .unset, .unset, .unset] [(.int (((XT.ushr p2 (16 : Int32)) &&& (32767 : Int32)) % (3 : Int32)))])
  refine Fin.go (fun _ k => XS.iloadN X11.here hx rfl (hb hby at_29) rfl k) ?_
  show Fin _ p e below s _ _ _ T11 (mkF m 30 #[.val (.int p0), .val (.int p1), .val (.int p2), .val (.int ((p2 &&& (32767 : Int32)) % (3 : Int32))), .val (.int (((XT.ushr p2 (16 : Int32)) &&& (32767 : Int32)) % (3 : Int32))), .val (.ref a11), .unset, .unset, .unset, .unset] [(.int p1), (.int (((XT.ushr p2 (16 : Int32)) &&& (32767 : Int32)) % (3 : Int32)))])
  obtain ⟨v12, T12, L12, X12, hS12, hZ12, hown12, RC12, q12, st12⟩ := callStH X11 hx hZ11 (y := (⟨"com/example/termspan/termspan/options/OptionFlagPinLaw", "draw", "(II)Ljava/lang/String;"⟩ : MethodName)) hown11 (hw _ w_0) (hw _ w_1) (hw _ w_2) (hw _ w_3) (by decide) (W := 0) (rmDraw l Z a0 hw n0 T11.heap O11 (((XT.ushr p2 (16 : Int32)) &&& (32767 : Int32)) % (3 : Int32)) p1 cs S_cs hcs) (rfl : T11.heap = T11.heap) hS11 (Nat.le_refl T11.heap.size) hEL RR11.1 (by decide) (by decide) (by decide) (by decide) (g := (mkF m 30 #[.val (.int p0), .val (.int p1), .val (.int p2), .val (.int ((p2 &&& (32767 : Int32)) % (3 : Int32))), .val (.int (((XT.ushr p2 (16 : Int32)) &&& (32767 : Int32)) % (3 : Int32))), .val (.ref a11), .unset, .unset, .unset, .unset] [(.int p1), (.int (((XT.ushr p2 (16 : Int32)) &&& (32767 : Int32)) % (3 : Int32)))])) rfl (by rw [hml]; rfl) (argsL := [(.int (((XT.ushr p2 (16 : Int32)) &&& (32767 : Int32)) % (3 : Int32))), (.int p1)]) (rest := []) (lenOf pd_oIIcLjava_lang_String_ rfl) rfl (by show 2 * 0 + _ ≤ _; exact Nat.le_of_eq rfl) (hb hby at_30)
  obtain ⟨a12, rfl, Nq12, Kq12, A12⟩ := q12
  have N12 := Fr.app N11 Nq12
  have O12 := O11.keep Kq12 all0
  have RR12 := RR11.trans RC12
  refine Fin.go st12 ?_
  show Fin _ p e below s _ _ _ T12 (mkF m 33 #[.val (.int p0), .val (.int p1), .val (.int p2), .val (.int ((p2 &&& (32767 : Int32)) % (3 : Int32))), .val (.int (((XT.ushr p2 (16 : Int32)) &&& (32767 : Int32)) % (3 : Int32))), .val (.ref a11), .unset, .unset, .unset, .unset] [(.ref a12)])
  refine Fin.go (fun _ k => XS.astore X12.here hx rfl (hb hby at_33) rfl rfl (l' := #[.val (.int p0), .val (.int p1), .val (.int p2), .val (.int ((p2 &&& (32767 : Int32)) % (3 : Int32))), .val (.int (((XT.ushr p2 (16 : Int32)) &&& (32767 : Int32)) % (3 : Int32))), .val (.ref a11), .val (.ref a12), .unset, .unset, .unset]) rfl k) ?_
  show Fin _ p e below s _ _ _ T12 (mkF m 35 #[.val (.int p0), .val (.int p1), .val (.int p2), .val (.int ((p2 &&& (32767 : Int32)) % (3 : Int32))), .val (.int (((XT.ushr p2 (16 : Int32)) &&& (32767 : Int32)) % (3 : Int32))), .val (.ref a11), .val (.ref a12), .unset, .unset, .unset] [])
  refine Fin.go (fun _ k => XS.aload X12.here hx rfl (hb hby at_35) rfl rfl k) ?_
  show Fin _ p e below s _ _ _ T12 (mkF m 37 #[.val (.int p0), .val (.int p1), .val (.int p2), .val (.int ((p2 &&& (32767 : Int32)) % (3 : Int32))), .val (.int (((XT.ushr p2 (16 : Int32)) &&& (32767 : Int32)) % (3 : Int32))), .val (.ref a11), .val (.ref a12), .unset, .unset, .unset] [(.ref a11)])
  refine Fin.go (fun _ k => XS.aload X12.here hx rfl (hb hby at_37) rfl rfl k) ?_
  show Fin _ p e below s _ _ _ T12 (mkF m 39 #[.val (.int p0), .val (.int p1), .val (.int p2), .val (.int ((p2 &&& (32767 : Int32)) % (3 : Int32))), .val (.int (((XT.ushr p2 (16 : Int32)) &&& (32767 : Int32)) % (3 : Int32))), .val (.ref a11), .val (.ref a12), .unset, .unset, .unset] [(.ref a12), (.ref a11)])
  obtain ⟨v13, T13, L13, X13, q13, st13⟩ := callSt X12 hx hZ12 (y := (⟨"com/example/termspan/termspan/options/Option", "flag", "(Ljava/lang/String;Ljava/lang/String;)Lcom/example/termspan/termspan/options/Option;"⟩ : MethodName)) hown12 (hw _ w_37) (hw _ w_38) (hw _ w_39) (hw _ w_40) (by decide) (W := 0) (rmOpt l Z a0 hw n0 T12.heap O12 a11 a12) (rfl : T12.heap = T12.heap) (by decide) (by decide) (by decide) (by decide) (g := (mkF m 39 #[.val (.int p0), .val (.int p1), .val (.int p2), .val (.int ((p2 &&& (32767 : Int32)) % (3 : Int32))), .val (.int (((XT.ushr p2 (16 : Int32)) &&& (32767 : Int32)) % (3 : Int32))), .val (.ref a11), .val (.ref a12), .unset, .unset, .unset] [(.ref a12), (.ref a11)])) rfl (by rw [hml]; rfl) (argsL := [(.ref a11), (.ref a12)]) (rest := []) (lenOf pd_oLjava_lang_String_Ljava_lang_String_cLcom_example_termspan_termspan_options_Option_ rfl) rfl (by show 2 * 0 + _ ≤ _; exact Nat.le_of_eq rfl) (hb hby at_39)
  obtain ⟨o13, rfl, Nq13, Kq13, A13, G13_name, G13_value, G13_fallback, G13_required, G13_repeatable, G13_description, G13_range⟩ := q13
  have N13 := Fr.app N12 Nq13
  have O13 := O12.keep Kq13 all0
  have RR13 := RR12.trans (CHr.keep Kq13 sf0 RR12.1)
  have hk13 := Nat.le_trans (Nat.le_refl T12.heap.size) Kq13.1
  refine Fin.go st13 ?_
  show Fin _ p e below s _ _ _ T13 (mkF m 42 #[.val (.int p0), .val (.int p1), .val (.int p2), .val (.int ((p2 &&& (32767 : Int32)) % (3 : Int32))), .val (.int (((XT.ushr p2 (16 : Int32)) &&& (32767 : Int32)) % (3 : Int32))), .val (.ref a11), .val (.ref a12), .unset, .unset, .unset] [(.ref o13)])
  refine Fin.go (fun _ k => XS.astore X13.here hx rfl (hb hby at_42) rfl rfl (l' := #[.val (.int p0), .val (.int p1), .val (.int p2), .val (.int ((p2 &&& (32767 : Int32)) % (3 : Int32))), .val (.int (((XT.ushr p2 (16 : Int32)) &&& (32767 : Int32)) % (3 : Int32))), .val (.ref a11), .val (.ref a12), .val (.ref o13), .unset, .unset]) rfl k) ?_
  show Fin _ p e below s _ _ _ T13 (mkF m 44 #[.val (.int p0), .val (.int p1), .val (.int p2), .val (.int ((p2 &&& (32767 : Int32)) % (3 : Int32))), .val (.int (((XT.ushr p2 (16 : Int32)) &&& (32767 : Int32)) % (3 : Int32))), .val (.ref a11), .val (.ref a12), .val (.ref o13), .unset, .unset] [])
  refine Fin.go (fun _ k => XS.aload X13.here hx rfl (hb hby at_44) rfl rfl k) ?_
  show Fin _ p e below s _ _ _ T13 (mkF m 46 #[.val (.int p0), .val (.int p1), .val (.int p2), .val (.int ((p2 &&& (32767 : Int32)) % (3 : Int32))), .val (.int (((XT.ushr p2 (16 : Int32)) &&& (32767 : Int32)) % (3 : Int32))), .val (.ref a11), .val (.ref a12), .val (.ref o13), .unset, .unset] [(.ref o13)])
  refine Fin.go (fun _ k => XT.ifnonnullYes X13.here hx rfl (pc0 := 46) (pc' := 51) rfl (hb hby at_46) rfl (by decide) (by decide) k) ?_
  show Fin _ p e below s _ _ _ T13 (mkF m 51 #[.val (.int p0), .val (.int p1), .val (.int p2), .val (.int ((p2 &&& (32767 : Int32)) % (3 : Int32))), .val (.int (((XT.ushr p2 (16 : Int32)) &&& (32767 : Int32)) % (3 : Int32))), .val (.ref a11), .val (.ref a12), .val (.ref o13), .unset, .unset] [])
  refine Fin.go (fun _ k => XS.aload X13.here hx rfl (hb hby at_51) rfl rfl k) ?_
  show Fin _ p e below s _ _ _ T13 (mkF m 53 #[.val (.int p0), .val (.int p1), .val (.int p2), .val (.int ((p2 &&& (32767 : Int32)) % (3 : Int32))), .val (.int (((XT.ushr p2 (16 : Int32)) &&& (32767 : Int32)) % (3 : Int32))), .val (.ref a11), .val (.ref a12), .val (.ref o13), .unset, .unset] [(.ref o13)])
  obtain ⟨v14, T14, L14, X14, q14, st14⟩ := callVt X13 hx hZ12 (y := (⟨"com/example/termspan/termspan/options/Option", "name", "()Ljava/lang/String;"⟩ : MethodName)) hown12 (hw _ w_66) (hw _ w_67) (hw _ w_69) (hw _ w_68) (hw _ w_39) (hw _ w_70) (by decide) (W := 0) (rmG_name l Z a0 hw n0 T13.heap O13 o13 a11 G13_name) (rfl : T13.heap = T13.heap) A13 (by decide) (by decide) (by decide) (by decide) (g := (mkF m 53 #[.val (.int p0), .val (.int p1), .val (.int p2), .val (.int ((p2 &&& (32767 : Int32)) % (3 : Int32))), .val (.int (((XT.ushr p2 (16 : Int32)) &&& (32767 : Int32)) % (3 : Int32))), .val (.ref a11), .val (.ref a12), .val (.ref o13), .unset, .unset] [(.ref o13)])) rfl (by rw [hml]; rfl) (argsL := []) (rest := []) (lenOf pd_ocLjava_lang_String_ rfl) rfl (by show 2 * 0 + _ ≤ _; exact Nat.le_of_eq rfl) (hb hby at_53)
  obtain ⟨rfl, e14, rfl⟩ := q14
  have N14 := Fr.app N13 (Fr.nil n0)
  refine Fin.go st14 ?_
  show Fin _ p e below s _ _ _ T14 (mkF m 56 #[.val (.int p0), .val (.int p1), .val (.int p2), .val (.int ((p2 &&& (32767 : Int32)) % (3 : Int32))), .val (.int (((XT.ushr p2 (16 : Int32)) &&& (32767 : Int32)) % (3 : Int32))), .val (.ref a11), .val (.ref a12), .val (.ref o13), .unset, .unset] [(.ref a11)])
  refine Fin.go (fun _ k => XS.ifnullNo X14.here hx rfl (hb hby at_56) rfl k) ?_
  show Fin _ p e below s _ _ _ T14 (mkF m 59 #[.val (.int p0), .val (.int p1), .val (.int p2), .val (.int ((p2 &&& (32767 : Int32)) % (3 : Int32))), .val (.int (((XT.ushr p2 (16 : Int32)) &&& (32767 : Int32)) % (3 : Int32))), .val (.ref a11), .val (.ref a12), .val (.ref o13), .unset, .unset] [])
  refine Fin.go (fun _ k => XS.aload X14.here hx rfl (hb hby at_59) rfl rfl k) ?_
  show Fin _ p e below s _ _ _ T14 (mkF m 61 #[.val (.int p0), .val (.int p1), .val (.int p2), .val (.int ((p2 &&& (32767 : Int32)) % (3 : Int32))), .val (.int (((XT.ushr p2 (16 : Int32)) &&& (32767 : Int32)) % (3 : Int32))), .val (.ref a11), .val (.ref a12), .val (.ref o13), .unset, .unset] [(.ref o13)])
  obtain ⟨v15, T15, L15, X15, q15, st15⟩ := callVt X14 hx hZ12 (y := (⟨"com/example/termspan/termspan/options/Option", "name", "()Ljava/lang/String;"⟩ : MethodName)) hown12 (hw _ w_66) (hw _ w_67) (hw _ w_69) (hw _ w_68) (hw _ w_39) (hw _ w_70) (by decide) (W := 0) (rmG_name l Z a0 hw n0 T13.heap O13 o13 a11 G13_name) e14 A13 (by decide) (by decide) (by decide) (by decide) (g := (mkF m 61 #[.val (.int p0), .val (.int p1), .val (.int p2), .val (.int ((p2 &&& (32767 : Int32)) % (3 : Int32))), .val (.int (((XT.ushr p2 (16 : Int32)) &&& (32767 : Int32)) % (3 : Int32))), .val (.ref a11), .val (.ref a12), .val (.ref o13), .unset, .unset] [(.ref o13)])) rfl (by rw [hml]; rfl) (argsL := []) (rest := []) (lenOf pd_ocLjava_lang_String_ rfl) rfl (by show 2 * 0 + _ ≤ _; exact Nat.le_of_eq rfl) (hb hby at_61)
  obtain ⟨rfl, e15, rfl⟩ := q15
  have N15 := Fr.app N14 (Fr.nil n0)
  refine Fin.go st15 ?_
  show Fin _ p e below s _ _ _ T15 (mkF m 64 #[.val (.int p0), .val (.int p1), .val (.int p2), .val (.int ((p2 &&& (32767 : Int32)) % (3 : Int32))), .val (.int (((XT.ushr p2 (16 : Int32)) &&& (32767 : Int32)) % (3 : Int32))), .val (.ref a11), .val (.ref a12), .val (.ref o13), .unset, .unset] [(.ref a11)])
  refine Fin.go (fun _ k => XS.aload X15.here hx rfl (hb hby at_64) rfl rfl k) ?_
  show Fin _ p e below s _ _ _ T15 (mkF m 66 #[.val (.int p0), .val (.int p1), .val (.int p2), .val (.int ((p2 &&& (32767 : Int32)) % (3 : Int32))), .val (.int (((XT.ushr p2 (16 : Int32)) &&& (32767 : Int32)) % (3 : Int32))), .val (.ref a11), .val (.ref a12), .val (.ref o13), .unset, .unset] [(.ref a11), (.ref a11)])
  obtain ⟨v16, T16, L16, X16, q16, st16⟩ := callVt X15 hx hZ12 (y := (⟨"java/lang/String", "equals", "(Ljava/lang/Object;)Z"⟩ : MethodName)) hown12 (hw _ w_71) (hw _ w_72) (hw _ w_74) (hw _ w_73) (hw _ w_7) (hw _ w_75) (by decide) (W := 0) (rmEqI l Z a0 hw n0 T13.heap O13 a11) e15 ((A11.keep Kq12).keep Kq13) (by decide) (by decide) (by decide) (by decide) (g := (mkF m 66 #[.val (.int p0), .val (.int p1), .val (.int p2), .val (.int ((p2 &&& (32767 : Int32)) % (3 : Int32))), .val (.int (((XT.ushr p2 (16 : Int32)) &&& (32767 : Int32)) % (3 : Int32))), .val (.ref a11), .val (.ref a12), .val (.ref o13), .unset, .unset] [(.ref a11), (.ref a11)])) rfl (by rw [hml]; rfl) (argsL := [(.ref a11)]) (rest := []) (lenOf pd_oLjava_lang_Object_cZ rfl) rfl (by show 2 * 0 + _ ≤ _; exact Nat.le_of_eq rfl) (hb hby at_66)
  obtain ⟨rfl, e16, rfl⟩ := q16
  have N16 := Fr.app N15 (Fr.nil n0)
  refine Fin.go st16 ?_
  show Fin _ p e below s _ _ _ T16 (mkF m 69 #[.val (.int p0), .val (.int p1), .val (.int p2), .val (.int ((p2 &&& (32767 : Int32)) % (3 : Int32))), .val (.int (((XT.ushr p2 (16 : Int32)) &&& (32767 : Int32)) % (3 : Int32))), .val (.ref a11), .val (.ref a12), .val (.ref o13), .unset, .unset] [(.int (1 : Int32))])
  refine Fin.go (fun _ k => XS.ifNo X16.here hx rfl (hb hby at_69) rfl (XT.i0_eq_f (by decide)) k) ?_
  show Fin _ p e below s _ _ _ T16 (mkF m 72 #[.val (.int p0), .val (.int p1), .val (.int p2), .val (.int ((p2 &&& (32767 : Int32)) % (3 : Int32))), .val (.int (((XT.ushr p2 (16 : Int32)) &&& (32767 : Int32)) % (3 : Int32))), .val (.ref a11), .val (.ref a12), .val (.ref o13), .unset, .unset] [])
  refine Fin.go (fun _ k => XS.iconst X16.here hx rfl (hb hby at_72) k) ?_
  show Fin _ p e below s _ _ _ T16 (mkF m 73 #[.val (.int p0), .val (.int p1), .val (.int p2), .val (.int ((p2 &&& (32767 : Int32)) % (3 : Int32))), .val (.int (((XT.ushr p2 (16 : Int32)) &&& (32767 : Int32)) % (3 : Int32))), .val (.ref a11), .val (.ref a12), .val (.ref o13), .unset, .unset] [(.int (1 : Int32))])
  refine Fin.go (fun _ k => XS.goto X16.here hx rfl (pc0 := 73) (pc' := 77) rfl (hb hby at_73) (by decide) (by decide) k) ?_
  show Fin _ p e below s _ _ _ T16 (mkF m 77 #[.val (.int p0), .val (.int p1), .val (.int p2), .val (.int ((p2 &&& (32767 : Int32)) % (3 : Int32))), .val (.int (((XT.ushr p2 (16 : Int32)) &&& (32767 : Int32)) % (3 : Int32))), .val (.ref a11), .val (.ref a12), .val (.ref o13), .unset, .unset] [(.int (1 : Int32))])
  refine Fin.go (fun _ k => XS.istore X16.here hx rfl (hb hby at_77) rfl (l' := #[.val (.int p0), .val (.int p1), .val (.int p2), .val (.int ((p2 &&& (32767 : Int32)) % (3 : Int32))), .val (.int (((XT.ushr p2 (16 : Int32)) &&& (32767 : Int32)) % (3 : Int32))), .val (.ref a11), .val (.ref a12), .val (.ref o13), .val (.int (1 : Int32)), .unset]) rfl k) ?_
  show Fin _ p e below s _ _ _ T16 (mkF m 79 #[.val (.int p0), .val (.int p1), .val (.int p2), .val (.int ((p2 &&& (32767 : Int32)) % (3 : Int32))), .val (.int (((XT.ushr p2 (16 : Int32)) &&& (32767 : Int32)) % (3 : Int32))), .val (.ref a11), .val (.ref a12), .val (.ref o13), .val (.int (1 : Int32)), .unset] [])
  refine Fin.go (fun _ k => XS.aload X16.here hx rfl (hb hby at_79) rfl rfl k) ?_
  show Fin _ p e below s _ _ _ T16 (mkF m 81 #[.val (.int p0), .val (.int p1), .val (.int p2), .val (.int ((p2 &&& (32767 : Int32)) % (3 : Int32))), .val (.int (((XT.ushr p2 (16 : Int32)) &&& (32767 : Int32)) % (3 : Int32))), .val (.ref a11), .val (.ref a12), .val (.ref o13), .val (.int (1 : Int32)), .unset] [(.ref o13)])
  obtain ⟨v17, T17, L17, X17, q17, st17⟩ := callVt X16 hx hZ12 (y := (⟨"com/example/termspan/termspan/options/Option", "description", "()Ljava/lang/String;"⟩ : MethodName)) hown12 (hw _ w_76) (hw _ w_77) (hw _ w_79) (hw _ w_78) (hw _ w_39) (hw _ w_80) (by decide) (W := 0) (rmG_description l Z a0 hw n0 T13.heap O13 o13 a12 G13_description) e16 A13 (by decide) (by decide) (by decide) (by decide) (g := (mkF m 81 #[.val (.int p0), .val (.int p1), .val (.int p2), .val (.int ((p2 &&& (32767 : Int32)) % (3 : Int32))), .val (.int (((XT.ushr p2 (16 : Int32)) &&& (32767 : Int32)) % (3 : Int32))), .val (.ref a11), .val (.ref a12), .val (.ref o13), .val (.int (1 : Int32)), .unset] [(.ref o13)])) rfl (by rw [hml]; rfl) (argsL := []) (rest := []) (lenOf pd_ocLjava_lang_String_ rfl) rfl (by show 2 * 0 + _ ≤ _; exact Nat.le_of_eq rfl) (hb hby at_81)
  obtain ⟨rfl, e17, rfl⟩ := q17
  have N17 := Fr.app N16 (Fr.nil n0)
  refine Fin.go st17 ?_
  show Fin _ p e below s _ _ _ T17 (mkF m 84 #[.val (.int p0), .val (.int p1), .val (.int p2), .val (.int ((p2 &&& (32767 : Int32)) % (3 : Int32))), .val (.int (((XT.ushr p2 (16 : Int32)) &&& (32767 : Int32)) % (3 : Int32))), .val (.ref a11), .val (.ref a12), .val (.ref o13), .val (.int (1 : Int32)), .unset] [(.ref a12)])
  refine Fin.go (fun _ k => XS.ifnullNo X17.here hx rfl (hb hby at_84) rfl k) ?_
  show Fin _ p e below s _ _ _ T17 (mkF m 87 #[.val (.int p0), .val (.int p1), .val (.int p2), .val (.int ((p2 &&& (32767 : Int32)) % (3 : Int32))), .val (.int (((XT.ushr p2 (16 : Int32)) &&& (32767 : Int32)) % (3 : Int32))), .val (.ref a11), .val (.ref a12), .val (.ref o13), .val (.int (1 : Int32)), .unset] [])
  refine Fin.go (fun _ k => XS.aload X17.here hx rfl (hb hby at_87) rfl rfl k) ?_
  show Fin _ p e below s _ _ _ T17 (mkF m 89 #[.val (.int p0), .val (.int p1), .val (.int p2), .val (.int ((p2 &&& (32767 : Int32)) % (3 : Int32))), .val (.int (((XT.ushr p2 (16 : Int32)) &&& (32767 : Int32)) % (3 : Int32))), .val (.ref a11), .val (.ref a12), .val (.ref o13), .val (.int (1 : Int32)), .unset] [(.ref o13)])
  obtain ⟨v18, T18, L18, X18, q18, st18⟩ := callVt X17 hx hZ12 (y := (⟨"com/example/termspan/termspan/options/Option", "description", "()Ljava/lang/String;"⟩ : MethodName)) hown12 (hw _ w_76) (hw _ w_77) (hw _ w_79) (hw _ w_78) (hw _ w_39) (hw _ w_80) (by decide) (W := 0) (rmG_description l Z a0 hw n0 T13.heap O13 o13 a12 G13_description) e17 A13 (by decide) (by decide) (by decide) (by decide) (g := (mkF m 89 #[.val (.int p0), .val (.int p1), .val (.int p2), .val (.int ((p2 &&& (32767 : Int32)) % (3 : Int32))), .val (.int (((XT.ushr p2 (16 : Int32)) &&& (32767 : Int32)) % (3 : Int32))), .val (.ref a11), .val (.ref a12), .val (.ref o13), .val (.int (1 : Int32)), .unset] [(.ref o13)])) rfl (by rw [hml]; rfl) (argsL := []) (rest := []) (lenOf pd_ocLjava_lang_String_ rfl) rfl (by show 2 * 0 + _ ≤ _; exact Nat.le_of_eq rfl) (hb hby at_89)
  obtain ⟨rfl, e18, rfl⟩ := q18
  have N18 := Fr.app N17 (Fr.nil n0)
  refine Fin.go st18 ?_
  show Fin _ p e below s _ _ _ T18 (mkF m 92 #[.val (.int p0), .val (.int p1), .val (.int p2), .val (.int ((p2 &&& (32767 : Int32)) % (3 : Int32))), .val (.int (((XT.ushr p2 (16 : Int32)) &&& (32767 : Int32)) % (3 : Int32))), .val (.ref a11), .val (.ref a12), .val (.ref o13), .val (.int (1 : Int32)), .unset] [(.ref a12)])
  refine Fin.go (fun _ k => XS.aload X18.here hx rfl (hb hby at_92) rfl rfl k) ?_
  show Fin _ p e below s _ _ _ T18 (mkF m 94 #[.val (.int p0), .val (.int p1), .val (.int p2), .val (.int ((p2 &&& (32767 : Int32)) % (3 : Int32))), .val (.int (((XT.ushr p2 (16 : Int32)) &&& (32767 : Int32)) % (3 : Int32))), .val (.ref a11), .val (.ref a12), .val (.ref o13), .val (.int (1 : Int32)), .unset] [(.ref a12), (.ref a12)])
  obtain ⟨v19, T19, L19, X19, q19, st19⟩ := callVt X18 hx hZ12 (y := (⟨"java/lang/String", "equals", "(Ljava/lang/Object;)Z"⟩ : MethodName)) hown12 (hw _ w_71) (hw _ w_72) (hw _ w_74) (hw _ w_73) (hw _ w_7) (hw _ w_75) (by decide) (W := 0) (rmEqI l Z a0 hw n0 T13.heap O13 a12) e18 (A12.keep Kq13) (by decide) (by decide) (by decide) (by decide) (g := (mkF m 94 #[.val (.int p0), .val (.int p1), .val (.int p2), .val (.int ((p2 &&& (32767 : Int32)) % (3 : Int32))), .val (.int (((XT.ushr p2 (16 : Int32)) &&& (32767 : Int32)) % (3 : Int32))), .val (.ref a11), .val (.ref a12), .val (.ref o13), .val (.int (1 : Int32)), .unset] [(.ref a12), (.ref a12)])) rfl (by rw [hml]; rfl) (argsL := [(.ref a12)]) (rest := []) (lenOf pd_oLjava_lang_Object_cZ rfl) rfl (by show 2 * 0 + _ ≤ _; exact Nat.le_of_eq rfl) (hb hby at_94)
  obtain ⟨rfl, e19, rfl⟩ := q19
  have N19 := Fr.app N18 (Fr.nil n0)
  refine Fin.go st19 ?_
  show Fin _ p e below s _ _ _ T19 (mkF m 97 #[.val (.int p0), .val (.int p1), .val (.int p2), .val (.int ((p2 &&& (32767 : Int32)) % (3 : Int32))), .val (.int (((XT.ushr p2 (16 : Int32)) &&& (32767 : Int32)) % (3 : Int32))), .val (.ref a11), .val (.ref a12), .val (.ref o13), .val (.int (1 : Int32)), .unset] [(.int (1 : Int32))])
  refine Fin.go (fun _ k => XS.ifNo X19.here hx rfl (hb hby at_97) rfl (XT.i0_eq_f (by decide)) k) ?_
  show Fin _ p e below s _ _ _ T19 (mkF m 100 #[.val (.int p0), .val (.int p1), .val (.int p2), .val (.int ((p2 &&& (32767 : Int32)) % (3 : Int32))), .val (.int (((XT.ushr p2 (16 : Int32)) &&& (32767 : Int32)) % (3 : Int32))), .val (.ref a11), .val (.ref a12), .val (.ref o13), .val (.int (1 : Int32)), .unset] [])
  refine Fin.go (fun _ k => XS.iconst X19.here hx rfl (hb hby at_100) k) ?_
  show Fin _ p e below s _ _ _ T19 (mkF m 101 #[.val (.int p0), .val (.int p1), .val (.int p2), .val (.int ((p2 &&& (32767 : Int32)) % (3 : Int32))), .val (.int (((XT.ushr p2 (16 : Int32)) &&& (32767 : Int32)) % (3 : Int32))), .val (.ref a11), .val (.ref a12), .val (.ref o13), .val (.int (1 : Int32)), .unset] [(.int (1 : Int32))])
  refine Fin.go (fun _ k => XS.goto X19.here hx rfl (pc0 := 101) (pc' := 105) rfl (hb hby at_101) (by decide) (by decide) k) ?_
  show Fin _ p e below s _ _ _ T19 (mkF m 105 #[.val (.int p0), .val (.int p1), .val (.int p2), .val (.int ((p2 &&& (32767 : Int32)) % (3 : Int32))), .val (.int (((XT.ushr p2 (16 : Int32)) &&& (32767 : Int32)) % (3 : Int32))), .val (.ref a11), .val (.ref a12), .val (.ref o13), .val (.int (1 : Int32)), .unset] [(.int (1 : Int32))])
  refine Fin.go (fun _ k => XS.istore X19.here hx rfl (hb hby at_105) rfl (l' := #[.val (.int p0), .val (.int p1), .val (.int p2), .val (.int ((p2 &&& (32767 : Int32)) % (3 : Int32))), .val (.int (((XT.ushr p2 (16 : Int32)) &&& (32767 : Int32)) % (3 : Int32))), .val (.ref a11), .val (.ref a12), .val (.ref o13), .val (.int (1 : Int32)), .val (.int (1 : Int32))]) rfl k) ?_
  show Fin _ p e below s _ _ _ T19 (mkF m 107 #[.val (.int p0), .val (.int p1), .val (.int p2), .val (.int ((p2 &&& (32767 : Int32)) % (3 : Int32))), .val (.int (((XT.ushr p2 (16 : Int32)) &&& (32767 : Int32)) % (3 : Int32))), .val (.ref a11), .val (.ref a12), .val (.ref o13), .val (.int (1 : Int32)), .val (.int (1 : Int32))] [])
  refine Fin.go (fun _ k => XS.iload X19.here hx rfl (hb hby at_107) rfl k) ?_
  show Fin _ p e below s _ _ _ T19 (mkF m 109 #[.val (.int p0), .val (.int p1), .val (.int p2), .val (.int ((p2 &&& (32767 : Int32)) % (3 : Int32))), .val (.int (((XT.ushr p2 (16 : Int32)) &&& (32767 : Int32)) % (3 : Int32))), .val (.ref a11), .val (.ref a12), .val (.ref o13), .val (.int (1 : Int32)), .val (.int (1 : Int32))] [(.int (1 : Int32))])
  refine Fin.go (fun _ k => XS.ifNo X19.here hx rfl (hb hby at_109) rfl (XT.i0_eq_f (by decide)) k) ?_
  show Fin _ p e below s _ _ _ T19 (mkF m 112 #[.val (.int p0), .val (.int p1), .val (.int p2), .val (.int ((p2 &&& (32767 : Int32)) % (3 : Int32))), .val (.int (((XT.ushr p2 (16 : Int32)) &&& (32767 : Int32)) % (3 : Int32))), .val (.ref a11), .val (.ref a12), .val (.ref o13), .val (.int (1 : Int32)), .val (.int (1 : Int32))] [])
  refine Fin.go (fun _ k => XS.iload X19.here hx rfl (hb hby at_112) rfl k) ?_
  show Fin _ p e below s _ _ _ T19 (mkF m 114 #[.val (.int p0), .val (.int p1), .val (.int p2), .val (.int ((p2 &&& (32767 : Int32)) % (3 : Int32))), .val (.int (((XT.ushr p2 (16 : Int32)) &&& (32767 : Int32)) % (3 : Int32))), .val (.ref a11), .val (.ref a12), .val (.ref o13), .val (.int (1 : Int32)), .val (.int (1 : Int32))] [(.int (1 : Int32))])
  refine Fin.go (fun _ k => XS.ifNo X19.here hx rfl (hb hby at_114) rfl (XT.i0_eq_f (by decide)) k) ?_
  show Fin _ p e below s _ _ _ T19 (mkF m 117 #[.val (.int p0), .val (.int p1), .val (.int p2), .val (.int ((p2 &&& (32767 : Int32)) % (3 : Int32))), .val (.int (((XT.ushr p2 (16 : Int32)) &&& (32767 : Int32)) % (3 : Int32))), .val (.ref a11), .val (.ref a12), .val (.ref o13), .val (.int (1 : Int32)), .val (.int (1 : Int32))] [])
  refine Fin.go (fun _ k => XS.aload X19.here hx rfl (hb hby at_117) rfl rfl k) ?_
  show Fin _ p e below s _ _ _ T19 (mkF m 119 #[.val (.int p0), .val (.int p1), .val (.int p2), .val (.int ((p2 &&& (32767 : Int32)) % (3 : Int32))), .val (.int (((XT.ushr p2 (16 : Int32)) &&& (32767 : Int32)) % (3 : Int32))), .val (.ref a11), .val (.ref a12), .val (.ref o13), .val (.int (1 : Int32)), .val (.int (1 : Int32))] [(.ref o13)])
  obtain ⟨v20, T20, L20, X20, q20, st20⟩ := callVt X19 hx hZ12 (y := (⟨"com/example/termspan/termspan/options/Option", "value", "()Ljava/lang/String;"⟩ : MethodName)) hown12 (hw _ w_81) (hw _ w_82) (hw _ w_84) (hw _ w_83) (hw _ w_39) (hw _ w_85) (by decide) (W := 0) (rmG_value l Z a0 hw n0 T13.heap O13 o13 G13_value) e19 A13 (by decide) (by decide) (by decide) (by decide) (g := (mkF m 119 #[.val (.int p0), .val (.int p1), .val (.int p2), .val (.int ((p2 &&& (32767 : Int32)) % (3 : Int32))), .val (.int (((XT.ushr p2 (16 : Int32)) &&& (32767 : Int32)) % (3 : Int32))), .val (.ref a11), .val (.ref a12), .val (.ref o13), .val (.int (1 : Int32)), .val (.int (1 : Int32))] [(.ref o13)])) rfl (by rw [hml]; rfl) (argsL := []) (rest := []) (lenOf pd_ocLjava_lang_String_ rfl) rfl (by show 2 * 0 + _ ≤ _; exact Nat.le_of_eq rfl) (hb hby at_119)
  obtain ⟨rfl, e20, rfl⟩ := q20
  have N20 := Fr.app N19 (Fr.nil n0)
  refine Fin.go st20 ?_
  show Fin _ p e below s _ _ _ T20 (mkF m 122 #[.val (.int p0), .val (.int p1), .val (.int p2), .val (.int ((p2 &&& (32767 : Int32)) % (3 : Int32))), .val (.int (((XT.ushr p2 (16 : Int32)) &&& (32767 : Int32)) % (3 : Int32))), .val (.ref a11), .val (.ref a12), .val (.ref o13), .val (.int (1 : Int32)), .val (.int (1 : Int32))] [.null])
  refine Fin.go (fun _ k => XT.ifnonnullNo X20.here hx rfl (hb hby at_122) rfl k) ?_
  show Fin _ p e below s _ _ _ T20 (mkF m 125 #[.val (.int p0), .val (.int p1), .val (.int p2), .val (.int ((p2 &&& (32767 : Int32)) % (3 : Int32))), .val (.int (((XT.ushr p2 (16 : Int32)) &&& (32767 : Int32)) % (3 : Int32))), .val (.ref a11), .val (.ref a12), .val (.ref o13), .val (.int (1 : Int32)), .val (.int (1 : Int32))] [])
  refine Fin.go (fun _ k => XS.aload X20.here hx rfl (hb hby at_125) rfl rfl k) ?_
  show Fin _ p e below s _ _ _ T20 (mkF m 127 #[.val (.int p0), .val (.int p1), .val (.int p2), .val (.int ((p2 &&& (32767 : Int32)) % (3 : Int32))), .val (.int (((XT.ushr p2 (16 : Int32)) &&& (32767 : Int32)) % (3 : Int32))), .val (.ref a11), .val (.ref a12), .val (.ref o13), .val (.int (1 : Int32)), .val (.int (1 : Int32))] [(.ref o13)])
  obtain ⟨v21, T21, L21, X21, q21, st21⟩ := callVt X20 hx hZ12 (y := (⟨"com/example/termspan/termspan/options/Option", "fallback", "()Ljava/lang/String;"⟩ : MethodName)) hown12 (hw _ w_86) (hw _ w_87) (hw _ w_89) (hw _ w_88) (hw _ w_39) (hw _ w_90) (by decide) (W := 0) (rmG_fallback l Z a0 hw n0 T13.heap O13 o13 G13_fallback) e20 A13 (by decide) (by decide) (by decide) (by decide) (g := (mkF m 127 #[.val (.int p0), .val (.int p1), .val (.int p2), .val (.int ((p2 &&& (32767 : Int32)) % (3 : Int32))), .val (.int (((XT.ushr p2 (16 : Int32)) &&& (32767 : Int32)) % (3 : Int32))), .val (.ref a11), .val (.ref a12), .val (.ref o13), .val (.int (1 : Int32)), .val (.int (1 : Int32))] [(.ref o13)])) rfl (by rw [hml]; rfl) (argsL := []) (rest := []) (lenOf pd_ocLjava_lang_String_ rfl) rfl (by show 2 * 0 + _ ≤ _; exact Nat.le_of_eq rfl) (hb hby at_127)
  obtain ⟨rfl, e21, rfl⟩ := q21
  have N21 := Fr.app N20 (Fr.nil n0)
  refine Fin.go st21 ?_
  show Fin _ p e below s _ _ _ T21 (mkF m 130 #[.val (.int p0), .val (.int p1), .val (.int p2), .val (.int ((p2 &&& (32767 : Int32)) % (3 : Int32))), .val (.int (((XT.ushr p2 (16 : Int32)) &&& (32767 : Int32)) % (3 : Int32))), .val (.ref a11), .val (.ref a12), .val (.ref o13), .val (.int (1 : Int32)), .val (.int (1 : Int32))] [.null])
  refine Fin.go (fun _ k => XT.ifnonnullNo X21.here hx rfl (hb hby at_130) rfl k) ?_
  show Fin _ p e below s _ _ _ T21 (mkF m 133 #[.val (.int p0), .val (.int p1), .val (.int p2), .val (.int ((p2 &&& (32767 : Int32)) % (3 : Int32))), .val (.int (((XT.ushr p2 (16 : Int32)) &&& (32767 : Int32)) % (3 : Int32))), .val (.ref a11), .val (.ref a12), .val (.ref o13), .val (.int (1 : Int32)), .val (.int (1 : Int32))] [])
  refine Fin.go (fun _ k => XS.aload X21.here hx rfl (hb hby at_133) rfl rfl k) ?_
  show Fin _ p e below s _ _ _ T21 (mkF m 135 #[.val (.int p0), .val (.int p1), .val (.int p2), .val (.int ((p2 &&& (32767 : Int32)) % (3 : Int32))), .val (.int (((XT.ushr p2 (16 : Int32)) &&& (32767 : Int32)) % (3 : Int32))), .val (.ref a11), .val (.ref a12), .val (.ref o13), .val (.int (1 : Int32)), .val (.int (1 : Int32))] [(.ref o13)])
  obtain ⟨v22, T22, L22, X22, q22, st22⟩ := callVt X21 hx hZ12 (y := (⟨"com/example/termspan/termspan/options/Option", "required", "()Z"⟩ : MethodName)) hown12 (hw _ w_91) (hw _ w_92) (hw _ w_94) (hw _ w_93) (hw _ w_39) (hw _ w_95) (by decide) (W := 0) (rmG_required l Z a0 hw n0 T13.heap O13 o13 G13_required) e21 A13 (by decide) (by decide) (by decide) (by decide) (g := (mkF m 135 #[.val (.int p0), .val (.int p1), .val (.int p2), .val (.int ((p2 &&& (32767 : Int32)) % (3 : Int32))), .val (.int (((XT.ushr p2 (16 : Int32)) &&& (32767 : Int32)) % (3 : Int32))), .val (.ref a11), .val (.ref a12), .val (.ref o13), .val (.int (1 : Int32)), .val (.int (1 : Int32))] [(.ref o13)])) rfl (by rw [hml]; rfl) (argsL := []) (rest := []) (lenOf pd_ocZ rfl) rfl (by show 2 * 0 + _ ≤ _; exact Nat.le_of_eq rfl) (hb hby at_135)
  obtain ⟨rfl, e22, rfl⟩ := q22
  have N22 := Fr.app N21 (Fr.nil n0)
  refine Fin.go st22 ?_
  show Fin _ p e below s _ _ _ T22 (mkF m 138 #[.val (.int p0), .val (.int p1), .val (.int p2), .val (.int ((p2 &&& (32767 : Int32)) % (3 : Int32))), .val (.int (((XT.ushr p2 (16 : Int32)) &&& (32767 : Int32)) % (3 : Int32))), .val (.ref a11), .val (.ref a12), .val (.ref o13), .val (.int (1 : Int32)), .val (.int (1 : Int32))] [(.int (0 : Int32))])
  refine Fin.go (fun _ k => XS.ifNo X22.here hx rfl (hb hby at_138) rfl (XT.i0_ne_f (by decide)) k) ?_
  show Fin _ p e below s _ _ _ T22 (mkF m 141 #[.val (.int p0), .val (.int p1), .val (.int p2), .val (.int ((p2 &&& (32767 : Int32)) % (3 : Int32))), .val (.int (((XT.ushr p2 (16 : Int32)) &&& (32767 : Int32)) % (3 : Int32))), .val (.ref a11), .val (.ref a12), .val (.ref o13), .val (.int (1 : Int32)), .val (.int (1 : Int32))] [])
  refine Fin.go (fun _ k => XS.aload X22.here hx rfl (hb hby at_141) rfl rfl k) ?_
  show Fin _ p e below s _ _ _ T22 (mkF m 143 #[.val (.int p0), .val (.int p1), .val (.int p2), .val (.int ((p2 &&& (32767 : Int32)) % (3 : Int32))), .val (.int (((XT.ushr p2 (16 : Int32)) &&& (32767 : Int32)) % (3 : Int32))), .val (.ref a11), .val (.ref a12), .val (.ref o13), .val (.int (1 : Int32)), .val (.int (1 : Int32))] [(.ref o13)])
  obtain ⟨v23, T23, L23, X23, q23, st23⟩ := callVt X22 hx hZ12 (y := (⟨"com/example/termspan/termspan/options/Option", "repeatable", "()Z"⟩ : MethodName)) hown12 (hw _ w_96) (hw _ w_97) (hw _ w_99) (hw _ w_98) (hw _ w_39) (hw _ w_100) (by decide) (W := 0) (rmG_repeatable l Z a0 hw n0 T13.heap O13 o13 G13_repeatable) e22 A13 (by decide) (by decide) (by decide) (by decide) (g := (mkF m 143 #[.val (.int p0), .val (.int p1), .val (.int p2), .val (.int ((p2 &&& (32767 : Int32)) % (3 : Int32))), .val (.int (((XT.ushr p2 (16 : Int32)) &&& (32767 : Int32)) % (3 : Int32))), .val (.ref a11), .val (.ref a12), .val (.ref o13), .val (.int (1 : Int32)), .val (.int (1 : Int32))] [(.ref o13)])) rfl (by rw [hml]; rfl) (argsL := []) (rest := []) (lenOf pd_ocZ rfl) rfl (by show 2 * 0 + _ ≤ _; exact Nat.le_of_eq rfl) (hb hby at_143)
  obtain ⟨rfl, e23, rfl⟩ := q23
  have N23 := Fr.app N22 (Fr.nil n0)
  refine Fin.go st23 ?_
  show Fin _ p e below s _ _ _ T23 (mkF m 146 #[.val (.int p0), .val (.int p1), .val (.int p2), .val (.int ((p2 &&& (32767 : Int32)) % (3 : Int32))), .val (.int (((XT.ushr p2 (16 : Int32)) &&& (32767 : Int32)) % (3 : Int32))), .val (.ref a11), .val (.ref a12), .val (.ref o13), .val (.int (1 : Int32)), .val (.int (1 : Int32))] [(.int (0 : Int32))])
  refine Fin.go (fun _ k => XS.ifNo X23.here hx rfl (hb hby at_146) rfl (XT.i0_ne_f (by decide)) k) ?_
  show Fin _ p e below s _ _ _ T23 (mkF m 149 #[.val (.int p0), .val (.int p1), .val (.int p2), .val (.int ((p2 &&& (32767 : Int32)) % (3 : Int32))), .val (.int (((XT.ushr p2 (16 : Int32)) &&& (32767 : Int32)) % (3 : Int32))), .val (.ref a11), .val (.ref a12), .val (.ref o13), .val (.int (1 : Int32)), .val (.int (1 : Int32))] [])
  refine Fin.go (fun _ k => XS.aload X23.here hx rfl (hb hby at_149) rfl rfl k) ?_
  show Fin _ p e below s _ _ _ T23 (mkF m 151 #[.val (.int p0), .val (.int p1), .val (.int p2), .val (.int ((p2 &&& (32767 : Int32)) % (3 : Int32))), .val (.int (((XT.ushr p2 (16 : Int32)) &&& (32767 : Int32)) % (3 : Int32))), .val (.ref a11), .val (.ref a12), .val (.ref o13), .val (.int (1 : Int32)), .val (.int (1 : Int32))] [(.ref o13)])
  obtain ⟨v24, T24, L24, X24, q24, st24⟩ := callVt X23 hx hZ12 (y := (⟨"com/example/termspan/termspan/options/Option", "range", "()Lcom/example/termspan/termspan/options/Option$Range;"⟩ : MethodName)) hown12 (hw _ w_101) (hw _ w_102) (hw _ w_104) (hw _ w_103) (hw _ w_39) (hw _ w_105) (by decide) (W := 0) (rmG_range l Z a0 hw n0 T13.heap O13 o13 G13_range) e23 A13 (by decide) (by decide) (by decide) (by decide) (g := (mkF m 151 #[.val (.int p0), .val (.int p1), .val (.int p2), .val (.int ((p2 &&& (32767 : Int32)) % (3 : Int32))), .val (.int (((XT.ushr p2 (16 : Int32)) &&& (32767 : Int32)) % (3 : Int32))), .val (.ref a11), .val (.ref a12), .val (.ref o13), .val (.int (1 : Int32)), .val (.int (1 : Int32))] [(.ref o13)])) rfl (by rw [hml]; rfl) (argsL := []) (rest := []) (lenOf pd_ocLcom_example_termspan_termspan_options_OptionxRange_ rfl) rfl (by show 2 * 0 + _ ≤ _; exact Nat.le_of_eq rfl) (hb hby at_151)
  obtain ⟨rfl, e24, rfl⟩ := q24
  have N24 := Fr.app N23 (Fr.nil n0)
  refine Fin.go st24 ?_
  show Fin _ p e below s _ _ _ T24 (mkF m 154 #[.val (.int p0), .val (.int p1), .val (.int p2), .val (.int ((p2 &&& (32767 : Int32)) % (3 : Int32))), .val (.int (((XT.ushr p2 (16 : Int32)) &&& (32767 : Int32)) % (3 : Int32))), .val (.ref a11), .val (.ref a12), .val (.ref o13), .val (.int (1 : Int32)), .val (.int (1 : Int32))] [.null])
  refine Fin.go (fun _ k => XT.ifnonnullNo X24.here hx rfl (hb hby at_154) rfl k) ?_
  show Fin _ p e below s _ _ _ T24 (mkF m 157 #[.val (.int p0), .val (.int p1), .val (.int p2), .val (.int ((p2 &&& (32767 : Int32)) % (3 : Int32))), .val (.int (((XT.ushr p2 (16 : Int32)) &&& (32767 : Int32)) % (3 : Int32))), .val (.ref a11), .val (.ref a12), .val (.ref o13), .val (.int (1 : Int32)), .val (.int (1 : Int32))] [])
  refine Fin.go (fun _ k => XS.aload X24.here hx rfl (hb hby at_157) rfl rfl k) ?_
  show Fin _ p e below s _ _ _ T24 (mkF m 159 #[.val (.int p0), .val (.int p1), .val (.int p2), .val (.int ((p2 &&& (32767 : Int32)) % (3 : Int32))), .val (.int (((XT.ushr p2 (16 : Int32)) &&& (32767 : Int32)) % (3 : Int32))), .val (.ref a11), .val (.ref a12), .val (.ref o13), .val (.int (1 : Int32)), .val (.int (1 : Int32))] [(.ref o13)])
  obtain ⟨v25, T25, L25, X25, q25, st25⟩ := callVt X24 hx hZ12 (y := (⟨"com/example/termspan/termspan/options/Option", "isFlag", "()Z"⟩ : MethodName)) hown12 (hw _ w_106) (hw _ w_107) (hw _ w_109) (hw _ w_108) (hw _ w_39) (hw _ w_110) (by decide) (W := 0) (rmFl l Z a0 hw n0 T13.heap O13 o13 G13_value) e24 A13 (by decide) (by decide) (by decide) (by decide) (g := (mkF m 159 #[.val (.int p0), .val (.int p1), .val (.int p2), .val (.int ((p2 &&& (32767 : Int32)) % (3 : Int32))), .val (.int (((XT.ushr p2 (16 : Int32)) &&& (32767 : Int32)) % (3 : Int32))), .val (.ref a11), .val (.ref a12), .val (.ref o13), .val (.int (1 : Int32)), .val (.int (1 : Int32))] [(.ref o13)])) rfl (by rw [hml]; rfl) (argsL := []) (rest := []) (lenOf pd_ocZ rfl) rfl (by show 2 * 0 + _ ≤ _; exact Nat.le_of_eq rfl) (hb hby at_159)
  obtain ⟨rfl, e25, rfl⟩ := q25
  have N25 := Fr.app N24 (Fr.nil n0)
  refine Fin.go st25 ?_
  show Fin _ p e below s _ _ _ T25 (mkF m 162 #[.val (.int p0), .val (.int p1), .val (.int p2), .val (.int ((p2 &&& (32767 : Int32)) % (3 : Int32))), .val (.int (((XT.ushr p2 (16 : Int32)) &&& (32767 : Int32)) % (3 : Int32))), .val (.ref a11), .val (.ref a12), .val (.ref o13), .val (.int (1 : Int32)), .val (.int (1 : Int32))] [(.int (1 : Int32))])
  refine Fin.go (fun _ k => XS.ifNo X25.here hx rfl (hb hby at_162) rfl (XT.i0_eq_f (by decide)) k) ?_
  show Fin _ p e below s _ _ _ T25 (mkF m 165 #[.val (.int p0), .val (.int p1), .val (.int p2), .val (.int ((p2 &&& (32767 : Int32)) % (3 : Int32))), .val (.int (((XT.ushr p2 (16 : Int32)) &&& (32767 : Int32)) % (3 : Int32))), .val (.ref a11), .val (.ref a12), .val (.ref o13), .val (.int (1 : Int32)), .val (.int (1 : Int32))] [])
  refine Fin.go (fun _ k => XS.iconst X25.here hx rfl (hb hby at_165) k) ?_
  show Fin _ p e below s _ _ _ T25 (mkF m 166 #[.val (.int p0), .val (.int p1), .val (.int p2), .val (.int ((p2 &&& (32767 : Int32)) % (3 : Int32))), .val (.int (((XT.ushr p2 (16 : Int32)) &&& (32767 : Int32)) % (3 : Int32))), .val (.ref a11), .val (.ref a12), .val (.ref o13), .val (.int (1 : Int32)), .val (.int (1 : Int32))] [(.int (1 : Int32))])
  refine Fin.go (fun _ k => XS.goto X25.here hx rfl (pc0 := 166) (pc' := 170) rfl (hb hby at_166) (by decide) (by decide) k) ?_
  show Fin _ p e below s _ _ _ T25 (mkF m 170 #[.val (.int p0), .val (.int p1), .val (.int p2), .val (.int ((p2 &&& (32767 : Int32)) % (3 : Int32))), .val (.int (((XT.ushr p2 (16 : Int32)) &&& (32767 : Int32)) % (3 : Int32))), .val (.ref a11), .val (.ref a12), .val (.ref o13), .val (.int (1 : Int32)), .val (.int (1 : Int32))] [(.int (1 : Int32))])
  exact Fin.leaveH X25 hS12 hk13 hZ12 hEL e25 RR13 hlk (v := some (.int (nar .boolean (1 : Int32)))) (fun h => by rw [hret] at h; cases h) (by decide) (by decide) ⟨rfl, N25⟩ (fun fs hr => retN X25 hx (t := .boolean) hret (by simp) (hb hby at_170) hr)
set_option maxRecDepth 65536 in
set_option maxHeartbeats 40000000 in
theorem comes_1 {Post : Tables → Env → Array Value → State → Outcome → State → Prop} (hpost : ∀ tb e args s v u, (limb_1_1.after args s (.returned v) u = true ∧ limb_1_2.after args s (.returned v) u = true ∧ True) → ReturnedEndW s (.returned v) u (Jvm.fieldLocs frame_1_writes args s ++ Jvm.arrayLocs frame_1_arrays args s ++ Jvm.staticLocs frame_1_statics s) 24 1152 → Post tb e args s (.returned v) u) :
    ArmFor flags0 classFile x code maxLocals ret World_1 tables_1 room_1 Calls_1 rest_1 Pre_1 Post := by
  intro l hfl _ _ p e ha hc hk s m args below hf hA hF happ hP
  obtain ⟨hcalls, hrest, hpre⟩ := hP
  obtain ⟨-, -, -, hnamed, -, -, -, hat⟩ := (Spec.applies_iff hf).mp happ
  obtain ⟨hg, hn⟩ := and_e (Cond.before_iff.mp (show (Jvm.Cond.and given_1 narrow_1).before args s = true from hpre))
  obtain ⟨hcnt, hg⟩ := and_e hg
  obtain ⟨u0, u1, u2, rfl⟩ : ∃ u0 u1 u2 : Value, args = #[u0, u1, u2] := by
    have hs : args.size = 3 := by simpa [Cond.value, given_1] using hcnt
    obtain ⟨L⟩ := args
    match L, hs with
    | [u0, u1, u2], _ => exact ⟨u0, u1, u2, rfl⟩
  have hw := fun d (hd : d ∈ tables_1) => atoms_spec (ws := Jvm.Cond.code x code maxLocals ret :: tables_1) hat d (List.mem_cons_of_mem _ hd)
  have hfit : Fit s := fun {y c} hc i hi => by
    obtain ⟨ha, rfl⟩ := Array.getElem?_eq_some_iff.mp hc
    have q := List.all_eq_true.mp ((Array.all_eq_true_iff_forall_mem.mp hF) _ (Array.getElem_mem ha)) i (List.mem_range.mpr hi)
    simpa [Array.getElem?_eq_getElem hi] using q
  obtain ⟨g0, hg⟩ := and_e hg
  obtain ⟨i0, ei0⟩ := is_v g0
  obtain rfl : u0 = (.int i0) := Option.some.inj ei0
  obtain ⟨g1, hg⟩ := and_e hg
  obtain ⟨i1, ei1⟩ := is_v g1
  obtain rfl : u1 = (.int i1) := Option.some.inj ei1
  have g2 := hg
  obtain ⟨i2, ei2⟩ := is_v g2
  obtain rfl : u2 = (.int i2) := Option.some.inj ei2
  have hsets := fun (i : Nat) {w : Jvm.Cond} (h : jdkStatics_1[i]? = some w) => (atoms_of _ (rest_1_c_eq ▸ (show rest_1_c.before _ s = true from hrest))).1 w (List.mem_of_getElem? h)
  have hci := Cond.before_iff.mp (hsets 1 rfl)
  obtain ⟨cs, ecs⟩ := is_v hci
  have S_cs := Sta.start ecs (Or.inl (hsets 0 rfl))
  have hcs : ¬ cs = 0 := gotF (Cond.eq_ints ecs (Term.int_eval 0)) (not_v (Cond.before_iff.mp (hsets 2 rfl)))
  have hheld : ∀ p ∈ EL, Jvm.Lit.constHeld s p.1 p.2 := fun p hp => hcalls.1 p ((by decide : ∀ p ∈ EL, p ∈ consts_1) p hp)
  have hCH : CHv s EL s.vm s.heap := CHv.start (elW hw) hheld (hsets 2 rfl) (hw _ w_23) (hw _ w_6)
  obtain ⟨n, o, h1, h2, h3, _, L, rfl, ⟨rfl, N⟩, -, hq⟩ := law l s _ hw s.heap.size s.heap (Old.start s) i0 i1 i2 cs S_cs hcs p e ha hc hk s m _ below hf ((Spec.applies_iff_loose hf).mp happ).1 ⟨rfl, State.Warmed39.refl s, rfl, hCH⟩ trivial
  refine ⟨n, _, h1, h2, h3, hpost _ _ _ _ _ _ ⟨Cond.after_iff.mpr rfl, Cond.after_iff.mpr (eq_i res_at (Term.int_eval (1)) rfl), trivial⟩ ⟨hq.1, hq.2.1, hq.2.2.1, (hq.2.2.2.sift fun y hy => Or.inr (N y hy)).mono (by decide) (by decide)⟩⟩
theorem main_1_1 : Claimed_1_1 := comes_1 fun _ _ _ _ _ _ h hF => ⟨h.1, hF⟩
theorem main_1_2 : Claimed_1_2 := comes_1 fun _ _ _ _ _ _ h hF => ⟨h.2.1, hF⟩
end Jvm.Pilot.@@N@@
namespace Jvm.Pilot.@@N@@
open Jvm Jvm.ClassFile Sem Op Lib Jvm.Free Jvm.Stand Jvm.Pilot.@@N@@.Jvm.D
/-! MADE BY PROGRAM (witnessworld.py) out of the Statement's table words and the real class files: 21 classes; the members and pool entries that the words name. The judged class is class 1, her method 2. -/
namespace start1
open Jvm.ClassFile
def u (s : String) : CpInfo := .utf8 (stringToUtf16 s)
/-- a pool by its gaps: so many unusable entries, then the entry; so many at the end -/
def gap : Nat → List CpInfo → List CpInfo
  | 0, r => r
  | n + 1, r => .unusable :: gap n r
def poolList (es : List (Nat × CpInfo)) (last : Nat) : List CpInfo := es.foldr (fun e r => gap e.1 (e.2 :: r)) (gap last [])
def pool (es : List (Nat × CpInfo)) (last : Nat) : Array CpInfo := ⟨poolList es last⟩
def fileOf (pool : Array CpInfo) (this : Nat) (attrs : Array Attribute := #[]) (ms : Array MethodInfo := #[]) (fl : Nat := 33) (sup : Nat := 0) (ifs : Array Nat := #[]) (fds : Array FieldInfo := #[]) : ClassFile where
  minorVersion := 0
  majorVersion := 65
  constantPool := pool
  accessFlags := fl
  thisClass := this
  superClass := sup
  interfaces := ifs
  fields := fds
  methods := ms
  attributes := attrs
def plain (name : String) (sup : Option ClassId) : Class where
  name := name
  kind := .ordinary
  loader := none
  accessFlags := 33
  super := sup
  interfaces := #[]
  cf := none
  fields := #[]
  methods := #[]
  instanceTypes := #[]
  staticTypes := #[]
  resolved := #[]
  callSites := []
  init := .initialized
  statics := none
  mirror := none

def pool0 : Array CpInfo := pool [(5, u "<init>"), (0, u "()V"), (1, .class_ 10), (1, u "java/lang/Object")] 113

def k0c0 : Code := { maxStack := 0, maxLocals := 1, code := object_method_1_code, exceptionTable := #[], attributes := #[] }
def k0m0 : Method := { name := "<init>", desc := "()V", sig := { parameters := [], returnType := none }, accessFlags := 1, code := some k0c0 }
/-- java/lang/Object -/
def k0 : Class := { plain "java/lang/Object" none with
  accessFlags := 33
  interfaces := #[]
  cf := some (fileOf pool0 8 #[] #[{ accessFlags := 1, nameIndex := 5, descriptorIndex := 6, attributes := #[] }] 33 0 #[] #[])
  fields := #[]
  methods := #[k0m0]
  instanceTypes := #[]
  staticTypes := #[]
  resolved := Array.replicate 124 none
  statics := none }

def pool1 : Array CpInfo := pool [(2, .class_ 4), (1, u "java/lang/Object"), (0, u "<init>"), (0, u "()V"), (0, .class_ 8), (0, u "java/lang/String"), (0, .methodref 7 10), (0, .nameAndType 5 11), (0, u "([C)V"), (0, .methodref 13 14), (0, .class_ 15), (0, .nameAndType 16 17), (0, u "com/example/termspan/termspan/options/OptionFlagPinLaw"), (0, u "draw"), (0, u "(II)Ljava/lang/String;"), (0, .methodref 19 20), (0, .class_ 21), (0, .nameAndType 22 23), (0, u "com/example/termspan/termspan/options/Option"), (0, u "flag"), (0, u "(Ljava/lang/String;Ljava/lang/String;)Lcom/example/termspan/termspan/options/Option;"), (0, .methodref 19 25), (0, .nameAndType 26 27), (0, u "name"), (0, u "()Ljava/lang/String;"), (0, .methodref 7 29), (0, .nameAndType 30 31), (0, u "equals"), (0, u "(Ljava/lang/Object;)Z"), (0, .methodref 19 33), (0, .nameAndType 34 27), (0, u "description"), (0, .methodref 19 36), (0, .nameAndType 37 27), (0, u "value"), (0, .methodref 19 39), (0, .nameAndType 40 27), (0, u "fallback"), (0, .methodref 19 42), (0, .nameAndType 43 44), (0, u "required"), (0, u "()Z"), (0, .methodref 19 46), (0, .nameAndType 47 44), (0, u "repeatable"), (0, .methodref 19 49), (0, .nameAndType 50 51), (0, u "range"), (0, u "()Lcom/example/termspan/termspan/options/Option$Range;"), (0, .methodref 19 53), (0, .nameAndType 54 44), (0, u "isFlag"), (3, u "law"), (0, u "(III)Z")] 6

def k1m0 : Method := { name := "<init>", desc := "()V", sig := { parameters := [], returnType := none }, accessFlags := 1, code := none }
def k1c1 : Code := { maxStack := 3, maxLocals := 5, code := method_2_code, exceptionTable := #[], attributes := #[] }
def k1m1 : Method := { name := "draw", desc := "(II)Ljava/lang/String;", sig := { parameters := [.int, .int], returnType := some (.object "java/lang/String") }, accessFlags := 10, code := some k1c1 }
def k1c2 : Code := { maxStack := 2, maxLocals := 10, code := code, exceptionTable := #[], attributes := #[] }
def k1m2 : Method := { name := "law", desc := "(III)Z", sig := { parameters := [.int, .int, .int], returnType := some .boolean }, accessFlags := 9, code := some k1c2 }
/-- com/example/termspan/termspan/options/OptionFlagPinLaw -/
def k1 : Class := { plain "com/example/termspan/termspan/options/OptionFlagPinLaw" (some 0) with
  accessFlags := 49
  interfaces := #[]
  cf := some (fileOf pool1 13 #[] #[{ accessFlags := 1, nameIndex := 5, descriptorIndex := 6, attributes := #[] }, { accessFlags := 10, nameIndex := 16, descriptorIndex := 17, attributes := #[] }, { accessFlags := 9, nameIndex := 58, descriptorIndex := 59, attributes := #[] }] 49 2 #[] #[])
  fields := #[]
  methods := #[k1m0, k1m1, k1m2]
  instanceTypes := #[]
  staticTypes := #[]
  resolved := Array.replicate 66 none
  statics := none }

def pool2 : Array CpInfo := pool [(1, .class_ 2), (0, u "java/io/Serializable"), (0, .class_ 4), (0, u "java/lang/Object")] 2

/-- java/io/Serializable -/
def k2 : Class := { plain "java/io/Serializable" (some 0) with
  accessFlags := 1537
  interfaces := #[]
  cf := some (fileOf pool2 1 #[] #[] 1537 3 #[] #[])
  fields := #[]
  methods := #[]
  instanceTypes := #[]
  staticTypes := #[]
  resolved := Array.replicate 7 none
  statics := none }

def pool3 : Array CpInfo := pool [(1, .class_ 2), (0, u "java/lang/Comparable"), (0, .class_ 4), (0, u "java/lang/Object")] 7

/-- java/lang/Comparable -/
def k3 : Class := { plain "java/lang/Comparable" (some 0) with
  accessFlags := 1537
  interfaces := #[]
  cf := some (fileOf pool3 1 #[] #[] 1537 3 #[] #[])
  fields := #[]
  methods := #[]
  instanceTypes := #[]
  staticTypes := #[]
  resolved := Array.replicate 12 none
  statics := none }

def pool4 : Array CpInfo := pool [(2, .class_ 4), (1, u "java/lang/CharSequence"), (42, .class_ 48), (0, u "java/lang/CharSequence$1CodePointIterator"), (10, .class_ 60), (0, u "java/lang/CharSequence$1CharIterator"), (5, .class_ 67), (0, u "java/lang/Object")] 63

/-- java/lang/CharSequence -/
def k4 : Class := { plain "java/lang/CharSequence" (some 0) with
  accessFlags := 1537
  interfaces := #[]
  cf := some (fileOf pool4 2 #[.nestMembers #[47, 59]] #[] 1537 66 #[] #[])
  fields := #[]
  methods := #[]
  instanceTypes := #[]
  staticTypes := #[]
  resolved := Array.replicate 131 none
  statics := none }

def pool5 : Array CpInfo := pool [(1, .class_ 2), (0, u "java/lang/constant/Constable"), (0, .class_ 4), (0, u "java/lang/Object")] 6

/-- java/lang/constant/Constable -/
def k5 : Class := { plain "java/lang/constant/Constable" (some 0) with
  accessFlags := 1537
  interfaces := #[]
  cf := some (fileOf pool5 1 #[] #[] 1537 3 #[] #[])
  fields := #[]
  methods := #[]
  instanceTypes := #[]
  staticTypes := #[]
  resolved := Array.replicate 11 none
  statics := none }

def pool6 : Array CpInfo := pool [(1, .class_ 2), (0, u "java/lang/constant/ConstantDesc"), (0, .class_ 4), (0, u "java/lang/Object")] 32

/-- java/lang/constant/ConstantDesc -/
def k6 : Class := { plain "java/lang/constant/ConstantDesc" (some 0) with
  accessFlags := 1537
  interfaces := #[]
  cf := some (fileOf pool6 1 #[] #[] 1537 3 #[] #[])
  fields := #[]
  methods := #[]
  instanceTypes := #[]
  staticTypes := #[]
  resolved := Array.replicate 37 none
  statics := none }

def pool7 : Array CpInfo := pool [(1, .methodref 2 3), (0, .class_ 4), (0, .nameAndType 5 6), (0, u "java/lang/Object"), (0, u "<init>"), (0, u "()V"), (0, .string 8), (0, u ""), (0, .fieldref 10 11), (0, .class_ 12), (0, .nameAndType 13 14), (0, u "java/lang/String"), (0, u "value"), (0, u "[B"), (0, .fieldref 10 16), (0, .nameAndType 17 18), (0, u "coder"), (0, u "B"), (2, u "hash"), (0, u "I"), (2, u "hashIsZero"), (0, u "Z"), (0, .methodref 10 28), (0, .nameAndType 5 29), (0, u "([CIILjava/lang/Void;)V"), (8, .fieldref 10 39), (0, .nameAndType 40 26), (0, u "COMPACT_STRINGS"), (1, .class_ 44), (1, u "java/lang/StringUTF16"), (0, u "compress"), (1, .methodref 42 48), (0, .nameAndType 49 50), (0, u "coderFromArrayLen"), (0, u "([BI)B"), (126, .methodref 42 178), (0, .nameAndType 45 179), (0, u "([CII)[B"), (363, u "equals"), (29, u "(Ljava/lang/Object;)Z"), (1, .class_ 576), (0, u "java/lang/CharSequence"), (22, u "CASE_INSENSITIVE_ORDER"), (0, u "Ljava/util/Comparator;"), (409, u "([C)V"), (90, u "serialPersistentFields"), (0, u "[Ljava/io/ObjectStreamField;"), (0, .class_ 1104), (0, u "java/lang/String$CaseInsensitiveComparator"), (1, .class_ 1107), (0, u "java/io/Serializable"), (0, .class_ 1109), (0, u "java/lang/Comparable"), (0, .class_ 1111), (0, u "java/lang/constant/Constable"), (0, .class_ 1113), (0, u "java/lang/constant/ConstantDesc"), (2, u "serialVersionUID"), (0, u "J"), (3, u "REPL"), (0, u "C"), (2, u "LATIN1"), (1, u "UTF16")] 323

def k7m0 : Method := { name := "<init>", desc := "()V", sig := { parameters := [], returnType := none }, accessFlags := 1, code := none }
def k7c1 : Code := { maxStack := 5, maxLocals := 2, code := jdk_42_method_3_code, exceptionTable := #[], attributes := #[] }
def k7m1 : Method := { name := "<init>", desc := "([C)V", sig := { parameters := [(.array .char)], returnType := none }, accessFlags := 1, code := some k7c1 }
def k7c2 : Code := { maxStack := 2, maxLocals := 3, code := jdk_42_method_66_code, exceptionTable := #[], attributes := #[] }
def k7m2 : Method := { name := "equals", desc := "(Ljava/lang/Object;)Z", sig := { parameters := [(.object "java/lang/Object")], returnType := some .boolean }, accessFlags := 1, code := some k7c2 }
def k7c3 : Code := { maxStack := 4, maxLocals := 6, code := jdk_42_method_149_code, exceptionTable := #[], attributes := #[] }
def k7m3 : Method := { name := "<init>", desc := "([CIILjava/lang/Void;)V", sig := { parameters := [(.array .char), .int, .int, (.object "java/lang/Void")], returnType := none }, accessFlags := 2, code := some k7c3 }
/-- java/lang/String -/
def k7 : Class := { plain "java/lang/String" (some 0) with
  accessFlags := 49
  interfaces := #[2, 3, 4, 5, 6]
  cf := some (fileOf pool7 10 #[.nestMembers #[1103]] #[{ accessFlags := 1, nameIndex := 5, descriptorIndex := 6, attributes := #[] }, { accessFlags := 1, nameIndex := 5, descriptorIndex := 1010, attributes := #[] }, { accessFlags := 1, nameIndex := 543, descriptorIndex := 573, attributes := #[] }, { accessFlags := 2, nameIndex := 5, descriptorIndex := 29, attributes := #[] }] 49 2 #[1106, 1108, 575, 1110, 1112] #[{ accessFlags := 18, nameIndex := 13, descriptorIndex := 14, attributes := #[] }, { accessFlags := 18, nameIndex := 17, descriptorIndex := 18, attributes := #[] }, { accessFlags := 2, nameIndex := 21, descriptorIndex := 22, attributes := #[] }, { accessFlags := 2, nameIndex := 25, descriptorIndex := 26, attributes := #[] }, { accessFlags := 26, nameIndex := 1116, descriptorIndex := 1117, attributes := #[] }, { accessFlags := 24, nameIndex := 40, descriptorIndex := 26, attributes := #[] }, { accessFlags := 26, nameIndex := 1101, descriptorIndex := 1102, attributes := #[] }, { accessFlags := 26, nameIndex := 1121, descriptorIndex := 1122, attributes := #[] }, { accessFlags := 25, nameIndex := 599, descriptorIndex := 600, attributes := #[] }, { accessFlags := 24, nameIndex := 1125, descriptorIndex := 18, attributes := #[] }, { accessFlags := 24, nameIndex := 1127, descriptorIndex := 18, attributes := #[] }])
  fields := #[{ name := "value", type := (.array .byte), accessFlags := 18, slot := 0, constantValue := 0 }, { name := "coder", type := .byte, accessFlags := 18, slot := 1, constantValue := 0 }, { name := "hash", type := .int, accessFlags := 2, slot := 2, constantValue := 0 }, { name := "hashIsZero", type := .boolean, accessFlags := 2, slot := 3, constantValue := 0 }, { name := "serialVersionUID", type := .long, accessFlags := 26, slot := 0, constantValue := 0 }, { name := "COMPACT_STRINGS", type := .boolean, accessFlags := 24, slot := 1, constantValue := 0 }, { name := "serialPersistentFields", type := (.array (.object "java/io/ObjectStreamField")), accessFlags := 26, slot := 2, constantValue := 0 }, { name := "REPL", type := .char, accessFlags := 26, slot := 3, constantValue := 0 }, { name := "CASE_INSENSITIVE_ORDER", type := (.object "java/util/Comparator"), accessFlags := 25, slot := 4, constantValue := 0 }, { name := "LATIN1", type := .byte, accessFlags := 24, slot := 5, constantValue := 0 }, { name := "UTF16", type := .byte, accessFlags := 24, slot := 6, constantValue := 0 }]
  methods := #[k7m0, k7m1, k7m2, k7m3]
  instanceTypes := #[(.array .byte), .byte, .int, .boolean]
  staticTypes := #[.long, .boolean, (.array (.object "java/io/ObjectStreamField")), .char, (.object "java/util/Comparator"), .byte, .byte]
  resolved := Array.replicate 1451 none
  statics := some 0 }

def pool8 : Array CpInfo := pool [(6, .class_ 8), (1, u "java/lang/Object"), (0, u "<init>"), (0, u "()V"), (1, .class_ 14), (1, u "java/lang/StringUTF16"), (31, u "$assertionsDisabled"), (0, u "Z"), (13, u "HI_BYTE_SHIFT"), (0, u "I"), (2, u "LO_BYTE_SHIFT"), (49, .methodref 12 116), (0, .nameAndType 117 118), (0, u "compress"), (0, u "([CI[BII)I"), (3, u "([CII)[B"), (138, u "coderFromArrayLen"), (0, u "([BI)B"), (106, .class_ 371), (1, u "java/lang/StringUTF16$LinesSpliterator"), (58, u "MAX_LENGTH"), (196, .class_ 628), (0, u "java/lang/StringUTF16$CodePointsSpliterator"), (0, .class_ 630), (0, u "java/lang/StringUTF16$CharsSpliterator")] 4

def k8m0 : Method := { name := "<init>", desc := "()V", sig := { parameters := [], returnType := none }, accessFlags := 0, code := none }
def k8c1 : Code := { maxStack := 2, maxLocals := 2, code := jdk_52_method_15_code, exceptionTable := #[], attributes := #[] }
def k8m1 : Method := { name := "coderFromArrayLen", desc := "([BI)B", sig := { parameters := [(.array .byte), .int], returnType := some .byte }, accessFlags := 8, code := some k8c1 }
def k8c2 : Code := { maxStack := 5, maxLocals := 6, code := jdk_52_method_16_code, exceptionTable := #[], attributes := #[] }
def k8m2 : Method := { name := "compress", desc := "([CII)[B", sig := { parameters := [(.array .char), .int, .int], returnType := some (.array .byte) }, accessFlags := 9, code := some k8c2 }
def k8c3 : Code := { maxStack := 3, maxLocals := 7, code := jdk_52_method_21_code, exceptionTable := #[], attributes := #[] }
def k8m3 : Method := { name := "compress", desc := "([CI[BII)I", sig := { parameters := [(.array .char), .int, (.array .byte), .int, .int], returnType := some .int }, accessFlags := 9, code := some k8c3 }
/-- java/lang/StringUTF16 -/
def k8 : Class := { plain "java/lang/StringUTF16" (some 0) with
  accessFlags := 48
  interfaces := #[]
  cf := some (fileOf pool8 12 #[.nestMembers #[627, 629, 369]] #[{ accessFlags := 0, nameIndex := 9, descriptorIndex := 10, attributes := #[] }, { accessFlags := 8, nameIndex := 261, descriptorIndex := 262, attributes := #[] }, { accessFlags := 9, nameIndex := 117, descriptorIndex := 122, attributes := #[] }, { accessFlags := 9, nameIndex := 117, descriptorIndex := 118, attributes := #[] }] 48 6 #[] #[{ accessFlags := 26, nameIndex := 61, descriptorIndex := 62, attributes := #[] }, { accessFlags := 26, nameIndex := 65, descriptorIndex := 62, attributes := #[] }, { accessFlags := 24, nameIndex := 430, descriptorIndex := 62, attributes := #[] }, { accessFlags := 4120, nameIndex := 46, descriptorIndex := 47, attributes := #[] }])
  fields := #[{ name := "HI_BYTE_SHIFT", type := .int, accessFlags := 26, slot := 0, constantValue := 0 }, { name := "LO_BYTE_SHIFT", type := .int, accessFlags := 26, slot := 1, constantValue := 0 }, { name := "MAX_LENGTH", type := .int, accessFlags := 24, slot := 2, constantValue := 0 }, { name := "$assertionsDisabled", type := .boolean, accessFlags := 4120, slot := 3, constantValue := 0 }]
  methods := #[k8m0, k8m1, k8m2, k8m3]
  instanceTypes := #[]
  staticTypes := #[.int, .int, .int, .boolean]
  resolved := Array.replicate 635 none
  statics := none }

def pool9 : Array CpInfo := pool [(1, .methodref 2 3), (0, .class_ 4), (0, .nameAndType 5 6), (0, u "java/lang/Object"), (0, u "<init>"), (0, u "()V"), (0, .class_ 8), (0, u "java/lang/Record")] 13

def k9c0 : Code := { maxStack := 1, maxLocals := 1, code := jdk_30_method_1_code, exceptionTable := #[], attributes := #[] }
def k9m0 : Method := { name := "<init>", desc := "()V", sig := { parameters := [], returnType := none }, accessFlags := 4, code := some k9c0 }
/-- java/lang/Record -/
def k9 : Class := { plain "java/lang/Record" (some 0) with
  accessFlags := 1057
  interfaces := #[]
  cf := some (fileOf pool9 7 #[] #[{ accessFlags := 4, nameIndex := 5, descriptorIndex := 6, attributes := #[] }] 1057 2 #[] #[])
  fields := #[]
  methods := #[k9m0]
  instanceTypes := #[]
  staticTypes := #[]
  resolved := Array.replicate 22 none
  statics := none }

def pool10 : Array CpInfo := pool [(1, .methodref 2 3), (0, .class_ 4), (0, .nameAndType 5 6), (0, u "java/lang/Record"), (0, u "<init>"), (0, u "()V"), (0, .fieldref 8 9), (0, .class_ 10), (0, .nameAndType 11 12), (0, u "com/example/termspan/termspan/options/Option"), (0, u "name"), (0, u "Ljava/lang/String;"), (0, .fieldref 8 14), (0, .nameAndType 15 12), (0, u "value"), (0, .fieldref 8 17), (0, .nameAndType 18 12), (0, u "fallback"), (0, .fieldref 8 20), (0, .nameAndType 21 22), (0, u "required"), (0, u "Z"), (0, .fieldref 8 24), (0, .nameAndType 25 22), (0, u "repeatable"), (0, .fieldref 8 27), (0, .nameAndType 28 12), (0, u "description"), (0, .fieldref 8 30), (0, .nameAndType 31 32), (0, u "range"), (0, u "Lcom/example/termspan/termspan/options/Option$Range;"), (0, .methodref 8 34), (0, .nameAndType 5 35), (0, u "(Ljava/lang/String;Ljava/lang/String;Ljava/lang/String;ZZLjava/lang/String;Lcom/example/termspan/termspan/options/Option$Range;)V"), (1, .class_ 39), (1, u "com/example/termspan/termspan/options/Option$Range"), (1, u "()Ljava/lang/String;"), (59, u "()Z"), (36, u "isFlag"), (41, u "DESCRIPTION_COLUMN"), (0, u "I"), (7, u "flag"), (0, u "(Ljava/lang/String;Ljava/lang/String;)Lcom/example/termspan/termspan/options/Option;"), (15, u "()Lcom/example/termspan/termspan/options/Option$Range;")] 46

def k10c0 : Code := { maxStack := 2, maxLocals := 8, code := prog_31_method_1_code, exceptionTable := #[], attributes := #[] }
def k10m0 : Method := { name := "<init>", desc := "(Ljava/lang/String;Ljava/lang/String;Ljava/lang/String;ZZLjava/lang/String;Lcom/example/termspan/termspan/options/Option$Range;)V", sig := { parameters := [(.object "java/lang/String"), (.object "java/lang/String"), (.object "java/lang/String"), .boolean, .boolean, (.object "java/lang/String"), (.object "com/example/termspan/termspan/options/Option$Range")], returnType := none }, accessFlags := 1, code := some k10c0 }
def k10c1 : Code := { maxStack := 9, maxLocals := 2, code := prog_31_method_6_code, exceptionTable := #[], attributes := #[] }
def k10m1 : Method := { name := "flag", desc := "(Ljava/lang/String;Ljava/lang/String;)Lcom/example/termspan/termspan/options/Option;", sig := { parameters := [(.object "java/lang/String"), (.object "java/lang/String")], returnType := some (.object "com/example/termspan/termspan/options/Option") }, accessFlags := 9, code := some k10c1 }
def k10c2 : Code := { maxStack := 1, maxLocals := 1, code := prog_31_method_12_code, exceptionTable := #[], attributes := #[] }
def k10m2 : Method := { name := "isFlag", desc := "()Z", sig := { parameters := [], returnType := some .boolean }, accessFlags := 0, code := some k10c2 }
def k10c3 : Code := { maxStack := 1, maxLocals := 1, code := prog_31_method_20_code, exceptionTable := #[], attributes := #[] }
def k10m3 : Method := { name := "name", desc := "()Ljava/lang/String;", sig := { parameters := [], returnType := some (.object "java/lang/String") }, accessFlags := 1, code := some k10c3 }
def k10c4 : Code := { maxStack := 1, maxLocals := 1, code := prog_31_method_21_code, exceptionTable := #[], attributes := #[] }
def k10m4 : Method := { name := "value", desc := "()Ljava/lang/String;", sig := { parameters := [], returnType := some (.object "java/lang/String") }, accessFlags := 1, code := some k10c4 }
def k10c5 : Code := { maxStack := 1, maxLocals := 1, code := prog_31_method_22_code, exceptionTable := #[], attributes := #[] }
def k10m5 : Method := { name := "fallback", desc := "()Ljava/lang/String;", sig := { parameters := [], returnType := some (.object "java/lang/String") }, accessFlags := 1, code := some k10c5 }
def k10c6 : Code := { maxStack := 1, maxLocals := 1, code := prog_31_method_23_code, exceptionTable := #[], attributes := #[] }
def k10m6 : Method := { name := "required", desc := "()Z", sig := { parameters := [], returnType := some .boolean }, accessFlags := 1, code := some k10c6 }
def k10c7 : Code := { maxStack := 1, maxLocals := 1, code := prog_31_method_24_code, exceptionTable := #[], attributes := #[] }
def k10m7 : Method := { name := "repeatable", desc := "()Z", sig := { parameters := [], returnType := some .boolean }, accessFlags := 1, code := some k10c7 }
def k10c8 : Code := { maxStack := 1, maxLocals := 1, code := prog_31_method_25_code, exceptionTable := #[], attributes := #[] }
def k10m8 : Method := { name := "description", desc := "()Ljava/lang/String;", sig := { parameters := [], returnType := some (.object "java/lang/String") }, accessFlags := 1, code := some k10c8 }
def k10c9 : Code := { maxStack := 1, maxLocals := 1, code := prog_31_method_26_code, exceptionTable := #[], attributes := #[] }
def k10m9 : Method := { name := "range", desc := "()Lcom/example/termspan/termspan/options/Option$Range;", sig := { parameters := [], returnType := some (.object "com/example/termspan/termspan/options/Option$Range") }, accessFlags := 1, code := some k10c9 }
/-- com/example/termspan/termspan/options/Option -/
def k10 : Class := { plain "com/example/termspan/termspan/options/Option" (some 9) with
  accessFlags := 49
  interfaces := #[]
  cf := some (fileOf pool10 8 #[.nestMembers #[37]] #[{ accessFlags := 1, nameIndex := 5, descriptorIndex := 35, attributes := #[] }, { accessFlags := 9, nameIndex := 189, descriptorIndex := 190, attributes := #[] }, { accessFlags := 0, nameIndex := 138, descriptorIndex := 101, attributes := #[] }, { accessFlags := 1, nameIndex := 11, descriptorIndex := 41, attributes := #[] }, { accessFlags := 1, nameIndex := 15, descriptorIndex := 41, attributes := #[] }, { accessFlags := 1, nameIndex := 18, descriptorIndex := 41, attributes := #[] }, { accessFlags := 1, nameIndex := 21, descriptorIndex := 101, attributes := #[] }, { accessFlags := 1, nameIndex := 25, descriptorIndex := 101, attributes := #[] }, { accessFlags := 1, nameIndex := 28, descriptorIndex := 41, attributes := #[] }, { accessFlags := 1, nameIndex := 31, descriptorIndex := 206, attributes := #[] }] 49 2 #[] #[{ accessFlags := 18, nameIndex := 11, descriptorIndex := 12, attributes := #[] }, { accessFlags := 18, nameIndex := 15, descriptorIndex := 12, attributes := #[] }, { accessFlags := 18, nameIndex := 18, descriptorIndex := 12, attributes := #[] }, { accessFlags := 18, nameIndex := 21, descriptorIndex := 22, attributes := #[] }, { accessFlags := 18, nameIndex := 25, descriptorIndex := 22, attributes := #[] }, { accessFlags := 18, nameIndex := 28, descriptorIndex := 12, attributes := #[] }, { accessFlags := 18, nameIndex := 31, descriptorIndex := 32, attributes := #[] }, { accessFlags := 26, nameIndex := 180, descriptorIndex := 181, attributes := #[] }])
  fields := #[{ name := "name", type := (.object "java/lang/String"), accessFlags := 18, slot := 0, constantValue := 0 }, { name := "value", type := (.object "java/lang/String"), accessFlags := 18, slot := 1, constantValue := 0 }, { name := "fallback", type := (.object "java/lang/String"), accessFlags := 18, slot := 2, constantValue := 0 }, { name := "required", type := .boolean, accessFlags := 18, slot := 3, constantValue := 0 }, { name := "repeatable", type := .boolean, accessFlags := 18, slot := 4, constantValue := 0 }, { name := "description", type := (.object "java/lang/String"), accessFlags := 18, slot := 5, constantValue := 0 }, { name := "range", type := (.object "com/example/termspan/termspan/options/Option$Range"), accessFlags := 18, slot := 6, constantValue := 0 }, { name := "DESCRIPTION_COLUMN", type := .int, accessFlags := 26, slot := 0, constantValue := 0 }]
  methods := #[k10m0, k10m1, k10m2, k10m3, k10m4, k10m5, k10m6, k10m7, k10m8, k10m9]
  instanceTypes := #[(.object "java/lang/String"), (.object "java/lang/String"), (.object "java/lang/String"), .boolean, .boolean, (.object "java/lang/String"), (.object "com/example/termspan/termspan/options/Option$Range")]
  staticTypes := #[.int]
  resolved := Array.replicate 253 none
  statics := none }

def pool11 : Array CpInfo := pool [(4, .class_ 6), (1, u "java/lang/Object"), (0, u "<init>"), (0, u "()V"), (5, .class_ 16), (1, u "java/lang/StringLatin1"), (104, u "$assertionsDisabled"), (0, u "Z"), (98, .class_ 223), (1, u "java/lang/StringLatin1$LinesSpliterator"), (166, .class_ 391), (0, u "java/lang/StringLatin1$CharsSpliterator")] 3

def k11m0 : Method := { name := "<init>", desc := "()V", sig := { parameters := [], returnType := none }, accessFlags := 0, code := none }
/-- java/lang/StringLatin1 -/
def k11 : Class := { plain "java/lang/StringLatin1" (some 0) with
  accessFlags := 48
  interfaces := #[]
  cf := some (fileOf pool11 14 #[.nestMembers #[390, 221]] #[{ accessFlags := 0, nameIndex := 7, descriptorIndex := 8, attributes := #[] }] 48 4 #[] #[{ accessFlags := 4120, nameIndex := 121, descriptorIndex := 122, attributes := #[] }])
  fields := #[{ name := "$assertionsDisabled", type := .boolean, accessFlags := 4120, slot := 0, constantValue := 0 }]
  methods := #[k11m0]
  instanceTypes := #[]
  staticTypes := #[.boolean]
  resolved := Array.replicate 395 none
  statics := none }

def pool12 : Array CpInfo := pool [(2, .class_ 4), (1, u "java/lang/Object"), (0, u "<init>"), (0, u "()V"), (17, .class_ 26), (1, u "jdk/internal/util/Preconditions"), (28, .class_ 56), (0, u "jdk/internal/util/Preconditions$4"), (57, .class_ 115), (0, u "jdk/internal/util/Preconditions$1"), (7, u "SIOOBE_FORMATTER"), (0, u "Ljava/util/function/BiFunction;"), (0, .class_ 126), (0, u "jdk/internal/util/Preconditions$2"), (3, u "AIOOBE_FORMATTER"), (0, .class_ 132), (0, u "jdk/internal/util/Preconditions$3"), (3, u "IOOBE_FORMATTER")] 57

def k12m0 : Method := { name := "<init>", desc := "()V", sig := { parameters := [], returnType := none }, accessFlags := 1, code := none }
/-- jdk/internal/util/Preconditions -/
def k12 : Class := { plain "jdk/internal/util/Preconditions" (some 0) with
  accessFlags := 33
  interfaces := #[]
  cf := some (fileOf pool12 24 #[.nestMembers #[55, 131, 125, 114]] #[{ accessFlags := 1, nameIndex := 5, descriptorIndex := 6, attributes := #[] }] 33 2 #[] #[{ accessFlags := 25, nameIndex := 123, descriptorIndex := 124, attributes := #[] }, { accessFlags := 25, nameIndex := 130, descriptorIndex := 124, attributes := #[] }, { accessFlags := 25, nameIndex := 136, descriptorIndex := 124, attributes := #[] }])
  fields := #[{ name := "SIOOBE_FORMATTER", type := (.object "java/util/function/BiFunction"), accessFlags := 25, slot := 0, constantValue := 0 }, { name := "AIOOBE_FORMATTER", type := (.object "java/util/function/BiFunction"), accessFlags := 25, slot := 1, constantValue := 0 }, { name := "IOOBE_FORMATTER", type := (.object "java/util/function/BiFunction"), accessFlags := 25, slot := 2, constantValue := 0 }]
  methods := #[k12m0]
  instanceTypes := #[]
  staticTypes := #[(.object "java/util/function/BiFunction"), (.object "java/util/function/BiFunction"), (.object "java/util/function/BiFunction")]
  resolved := Array.replicate 194 none
  statics := some 1 }

def pool13 : Array CpInfo := pool [(9, u "<init>"), (6, .class_ 18), (1, u "java/lang/Object"), (0, u "()V"), (1, .class_ 23), (1, u "jdk/internal/util/ArraysSupport"), (0, u "LOG2_ARRAY_LONG_INDEX_SCALE"), (0, u "I"), (2, u "U"), (0, u "Ljdk/internal/misc/Unsafe;"), (8, u "BIG_ENDIAN"), (0, u "Z"), (8, u "LOG2_BYTE_BIT_SIZE"), (4, u "LOG2_ARRAY_INT_INDEX_SCALE"), (54, u "JLA"), (0, u "Ljdk/internal/access/JavaLangAccess;"), (11, u "LOG2_ARRAY_BOOLEAN_INDEX_SCALE"), (9, u "LOG2_ARRAY_BYTE_INDEX_SCALE"), (5, u "LOG2_ARRAY_CHAR_INDEX_SCALE"), (5, u "LOG2_ARRAY_SHORT_INDEX_SCALE"), (18, u "LOG2_ARRAY_FLOAT_INDEX_SCALE"), (24, u "LOG2_ARRAY_DOUBLE_INDEX_SCALE"), (89, u "T_BOOLEAN"), (2, u "T_CHAR"), (1, u "T_FLOAT"), (1, u "T_DOUBLE"), (1, u "T_BYTE"), (1, u "T_SHORT"), (1, u "T_INT"), (1, u "T_LONG"), (1, u "SOFT_MAX_ARRAY_LENGTH")] 83

def k13m0 : Method := { name := "<init>", desc := "()V", sig := { parameters := [], returnType := none }, accessFlags := 2, code := none }
/-- jdk/internal/util/ArraysSupport -/
def k13 : Class := { plain "jdk/internal/util/ArraysSupport" (some 0) with
  accessFlags := 33
  interfaces := #[]
  cf := some (fileOf pool13 21 #[] #[{ accessFlags := 2, nameIndex := 9, descriptorIndex := 19, attributes := #[] }] 33 16 #[] #[{ accessFlags := 24, nameIndex := 28, descriptorIndex := 29, attributes := #[] }, { accessFlags := 26, nameIndex := 38, descriptorIndex := 39, attributes := #[] }, { accessFlags := 25, nameIndex := 121, descriptorIndex := 25, attributes := #[] }, { accessFlags := 25, nameIndex := 131, descriptorIndex := 25, attributes := #[] }, { accessFlags := 25, nameIndex := 137, descriptorIndex := 25, attributes := #[] }, { accessFlags := 25, nameIndex := 143, descriptorIndex := 25, attributes := #[] }, { accessFlags := 25, nameIndex := 53, descriptorIndex := 25, attributes := #[] }, { accessFlags := 25, nameIndex := 24, descriptorIndex := 25, attributes := #[] }, { accessFlags := 25, nameIndex := 162, descriptorIndex := 25, attributes := #[] }, { accessFlags := 25, nameIndex := 187, descriptorIndex := 25, attributes := #[] }, { accessFlags := 26, nameIndex := 48, descriptorIndex := 25, attributes := #[] }, { accessFlags := 25, nameIndex := 277, descriptorIndex := 25, attributes := #[] }, { accessFlags := 25, nameIndex := 280, descriptorIndex := 25, attributes := #[] }, { accessFlags := 25, nameIndex := 282, descriptorIndex := 25, attributes := #[] }, { accessFlags := 25, nameIndex := 284, descriptorIndex := 25, attributes := #[] }, { accessFlags := 25, nameIndex := 286, descriptorIndex := 25, attributes := #[] }, { accessFlags := 25, nameIndex := 288, descriptorIndex := 25, attributes := #[] }, { accessFlags := 25, nameIndex := 290, descriptorIndex := 25, attributes := #[] }, { accessFlags := 25, nameIndex := 292, descriptorIndex := 25, attributes := #[] }, { accessFlags := 26, nameIndex := 108, descriptorIndex := 109, attributes := #[] }, { accessFlags := 25, nameIndex := 294, descriptorIndex := 25, attributes := #[] }])
  fields := #[{ name := "U", type := (.object "jdk/internal/misc/Unsafe"), accessFlags := 24, slot := 0, constantValue := 0 }, { name := "BIG_ENDIAN", type := .boolean, accessFlags := 26, slot := 1, constantValue := 0 }, { name := "LOG2_ARRAY_BOOLEAN_INDEX_SCALE", type := .int, accessFlags := 25, slot := 2, constantValue := 0 }, { name := "LOG2_ARRAY_BYTE_INDEX_SCALE", type := .int, accessFlags := 25, slot := 3, constantValue := 0 }, { name := "LOG2_ARRAY_CHAR_INDEX_SCALE", type := .int, accessFlags := 25, slot := 4, constantValue := 0 }, { name := "LOG2_ARRAY_SHORT_INDEX_SCALE", type := .int, accessFlags := 25, slot := 5, constantValue := 0 }, { name := "LOG2_ARRAY_INT_INDEX_SCALE", type := .int, accessFlags := 25, slot := 6, constantValue := 0 }, { name := "LOG2_ARRAY_LONG_INDEX_SCALE", type := .int, accessFlags := 25, slot := 7, constantValue := 0 }, { name := "LOG2_ARRAY_FLOAT_INDEX_SCALE", type := .int, accessFlags := 25, slot := 8, constantValue := 0 }, { name := "LOG2_ARRAY_DOUBLE_INDEX_SCALE", type := .int, accessFlags := 25, slot := 9, constantValue := 0 }, { name := "LOG2_BYTE_BIT_SIZE", type := .int, accessFlags := 26, slot := 10, constantValue := 0 }, { name := "T_BOOLEAN", type := .int, accessFlags := 25, slot := 11, constantValue := 0 }, { name := "T_CHAR", type := .int, accessFlags := 25, slot := 12, constantValue := 0 }, { name := "T_FLOAT", type := .int, accessFlags := 25, slot := 13, constantValue := 0 }, { name := "T_DOUBLE", type := .int, accessFlags := 25, slot := 14, constantValue := 0 }, { name := "T_BYTE", type := .int, accessFlags := 25, slot := 15, constantValue := 0 }, { name := "T_SHORT", type := .int, accessFlags := 25, slot := 16, constantValue := 0 }, { name := "T_INT", type := .int, accessFlags := 25, slot := 17, constantValue := 0 }, { name := "T_LONG", type := .int, accessFlags := 25, slot := 18, constantValue := 0 }, { name := "JLA", type := (.object "jdk/internal/access/JavaLangAccess"), accessFlags := 26, slot := 19, constantValue := 0 }, { name := "SOFT_MAX_ARRAY_LENGTH", type := .int, accessFlags := 25, slot := 20, constantValue := 0 }]
  methods := #[k13m0]
  instanceTypes := #[]
  staticTypes := #[(.object "jdk/internal/misc/Unsafe"), .boolean, .int, .int, .int, .int, .int, .int, .int, .int, .int, .int, .int, .int, .int, .int, .int, .int, .int, (.object "jdk/internal/access/JavaLangAccess"), .int]
  resolved := Array.replicate 378 none
  statics := none }

def pool14 : Array CpInfo := pool [(1, u "java/lang/Cloneable"), (0, .class_ 1), (0, u "java/lang/Object"), (0, .class_ 3)] 3

/-- java/lang/Cloneable -/
def k14 : Class := { plain "java/lang/Cloneable" (some 0) with
  accessFlags := 1537
  interfaces := #[]
  cf := some (fileOf pool14 2 #[] #[] 1537 4 #[] #[])
  fields := #[]
  methods := #[]
  instanceTypes := #[]
  staticTypes := #[]
  resolved := Array.replicate 8 none
  statics := none }

/-- the primitive byte -/
def k15 : Class := { plain "byte" none with kind := .primitive 'B', accessFlags := 0x411 }
/-- [B -/
def k16 : Class := { plain "[B" (some 0) with kind := .array 15 .byte, interfaces := #[14, 2], accessFlags := 1041 }

/-- the primitive char -/
def k17 : Class := { plain "char" none with kind := .primitive 'C', accessFlags := 0x411 }
/-- [C -/
def k18 : Class := { plain "[C" (some 0) with kind := .array 17 .char, interfaces := #[14, 2], accessFlags := 1041 }

/-- the primitive int -/
def k19 : Class := { plain "int" none with kind := .primitive 'I', accessFlags := 0x411 }
/-- [I -/
def k20 : Class := { plain "[I" (some 0) with kind := .array 19 .int, interfaces := #[14, 2], accessFlags := 1041 }

def heap : Heap := #[{ cls := 7, slots := #[.long 0, .int 1, .null, .int 0, .null, .int 0, .int 0], vm := .statics 7 },
  { cls := 12, slots := #[.null, .null, .null], vm := .statics 12 }]
def classes : Array Class := #[k0, k1, k2, k3, k4, k5, k6, k7, k8, k9, k10, k11, k12, k13, k14, k15, k16, k17, k18, k19, k20]
def interned : List (Array UInt16 × Addr) := []
def slotsUsed : Nat := 10
def theMethod : MethodId := ⟨1, 2⟩
def args0 : Array Value := #[.int 65, .int 66, .int 1]
def aboutOver (below : List Frame) : State where
  vm := { classes := classes, interned := interned.toArray }
  heap := heap
  slotsUsed := slotsUsed
  threads := #[{ frames := .invoking theMethod args0 :: below }]
def below0 : List Frame := [.native { method := ⟨0, 0⟩, args := #[] }]
def about1 : State := aboutOver below0
def p0 : Program := .bare "" "" ""
def e0 : Env := launch0.env 0 0 0
theorem w_frames : about1.frames = Frame.invoking theMethod args0 :: below0 := rfl
set_option maxRecDepth 65536 in
theorem w_args : argsFit about1.vm theMethod args0 = true := by decide +kernel
set_option maxRecDepth 65536 in
theorem w_heap : heapFits about1 = true := by decide +kernel
set_option maxRecDepth 65536 in
theorem w_runnable : about1.curStatus? = some .runnable := by decide +kernel
set_option maxRecDepth 65536 in
theorem w_alone : about1.alone = true := by decide +kernel
set_option maxRecDepth 65536 in
theorem w_named : about1.methodNamed? x = some theMethod := by decide +kernel
set_option maxRecDepth 65536 in
theorem w_hears : about1.hears theMethod below0 = true := by decide +kernel
set_option maxRecDepth 65536 in
theorem w_ripe : about1.ripe theMethod args0 below0 = true := by decide +kernel
theorem w_running : about1.status = .running := rfl
set_option maxRecDepth 65536 in
theorem w_room : about1.hasRoom e0.platform room_1 = true :=
  launch0.hasRoom_least _ room_1 (by decide +kernel) (by decide +kernel) (by decide +kernel) (by decide +kernel) (by decide +kernel) (by decide +kernel)
theorem allAtoms_all (ts : List Jvm.Cond) (a : Array Jvm.Value) (st : Jvm.State) : (allAtoms ts).before a st = ts.all (fun c => c.before a st) := by
  induction ts with
  | nil => rfl
  | cons c t ih =>
    show (Jvm.Cond.and c (allAtoms t)).before a st = _
    rw [Jvm.Cond.before_and, ih, List.all_cons]
def words1 : List Jvm.Cond := Jvm.Cond.code x code maxLocals ret :: tables_1
/-- a 'code' word, met by the world's own term for the bytes: nothing is compared byte by byte -/
theorem code_word {y : MethodName} {bytes : ByteArray} {mx : Nat} {rt : Option FieldType} {a : Array Value} {s : State} {m : MethodId} {meth : Method} {c : Code} (h1 : s.methodNamed? y = some m) (h2 : s.vm.method? m = some meth) (h3 : meth.code = some c) (h4 : c.code = bytes)
    (h5 : (c.maxLocals == mx && c.exceptionTable.isEmpty && decide (c.maxStack ≤ mostOperands) && decide (meth.sig.returnType = rt) && !meth.locks && decide (parseMethodDescriptor y.desc = some meth.sig)) = true) : (Jvm.Cond.code y bytes mx rt).before a s = true := by
  simp only [Bool.and_eq_true, beq_iff_eq, Bool.not_eq_true', decide_eq_true_eq] at h5
  obtain ⟨⟨⟨⟨⟨g1, g2⟩, g3⟩, g4⟩, g5⟩, g6⟩ := h5
  simp [Cond.before, Cond.holds, Cond.value, h1, h2, h3, h4, g1, g2, g3, g4, g5, g6]
def isCode : Jvm.Cond → Bool
  | .code _ _ _ _ => true
  | _ => false
theorem all_split {L : List Jvm.Cond} {P : Jvm.Cond → Bool} (h1 : L.all (fun c => isCode c || P c) = true) (h2 : ∀ c ∈ L.filter isCode, P c = true) : L.all P = true := by
  refine List.all_eq_true.mpr fun c hc => ?_
  have h := List.all_eq_true.mp h1 c hc
  rcases Bool.eq_false_or_eq_true (isCode c) with hi | hi
  · exact h2 c (List.mem_filter.mpr ⟨hc, hi⟩)
  · simpa [hi] using h
set_option maxRecDepth 65536 in
theorem w_c0 : (Jvm.Cond.code x code maxLocals ret).before args0 about1 = true := code_word (m := ⟨1, 2⟩) (meth := k1m2) (c := k1c2) (by decide +kernel) rfl rfl rfl (by decide +kernel)
set_option maxRecDepth 65536 in
theorem w_c1 : (Jvm.Cond.code ({ cls := "com/example/termspan/termspan/options/OptionFlagPinLaw", name := "draw", desc := "(II)Ljava/lang/String;" } : Jvm.MethodName) method_2_code (5 : Nat) (Option.some (Jvm.ClassFile.FieldType.object "java/lang/String"))).before args0 about1 = true := code_word (m := ⟨1, 1⟩) (meth := k1m1) (c := k1c1) (by decide +kernel) rfl rfl rfl (by decide +kernel)
set_option maxRecDepth 65536 in
theorem w_c2 : (Jvm.Cond.code ({ cls := "java/lang/String", name := "<init>", desc := "([C)V" } : Jvm.MethodName) jdk_42_method_3_code (2 : Nat) (Option.none : Option Jvm.ClassFile.FieldType)).before args0 about1 = true := code_word (m := ⟨7, 1⟩) (meth := k7m1) (c := k7c1) (by decide +kernel) rfl rfl rfl (by decide +kernel)
set_option maxRecDepth 65536 in
theorem w_c3 : (Jvm.Cond.code ({ cls := "java/lang/String", name := "<init>", desc := "([CIILjava/lang/Void;)V" } : Jvm.MethodName) jdk_42_method_149_code (6 : Nat) (Option.none : Option Jvm.ClassFile.FieldType)).before args0 about1 = true := code_word (m := ⟨7, 3⟩) (meth := k7m3) (c := k7c3) (by decide +kernel) rfl rfl rfl (by decide +kernel)
set_option maxRecDepth 65536 in
theorem w_c4 : (Jvm.Cond.code ({ cls := "java/lang/Object", name := "<init>", desc := "()V" } : Jvm.MethodName) object_method_1_code (1 : Nat) (Option.none : Option Jvm.ClassFile.FieldType)).before args0 about1 = true := code_word (m := ⟨0, 0⟩) (meth := k0m0) (c := k0c0) (by decide +kernel) rfl rfl rfl (by decide +kernel)
set_option maxRecDepth 65536 in
theorem w_c5 : (Jvm.Cond.code ({ cls := "java/lang/StringUTF16", name := "compress", desc := "([CII)[B" } : Jvm.MethodName) jdk_52_method_16_code (6 : Nat) (Option.some (Jvm.ClassFile.FieldType.array Jvm.ClassFile.FieldType.byte))).before args0 about1 = true := code_word (m := ⟨8, 2⟩) (meth := k8m2) (c := k8c2) (by decide +kernel) rfl rfl rfl (by decide +kernel)
set_option maxRecDepth 65536 in
theorem w_c6 : (Jvm.Cond.code ({ cls := "java/lang/StringUTF16", name := "compress", desc := "([CI[BII)I" } : Jvm.MethodName) jdk_52_method_21_code (7 : Nat) (Option.some Jvm.ClassFile.FieldType.int)).before args0 about1 = true := code_word (m := ⟨8, 3⟩) (meth := k8m3) (c := k8c3) (by decide +kernel) rfl rfl rfl (by decide +kernel)
set_option maxRecDepth 65536 in
theorem w_c7 : (Jvm.Cond.code ({ cls := "java/lang/StringUTF16", name := "coderFromArrayLen", desc := "([BI)B" } : Jvm.MethodName) jdk_52_method_15_code (2 : Nat) (Option.some Jvm.ClassFile.FieldType.byte)).before args0 about1 = true := code_word (m := ⟨8, 1⟩) (meth := k8m1) (c := k8c1) (by decide +kernel) rfl rfl rfl (by decide +kernel)
set_option maxRecDepth 65536 in
theorem w_c8 : (Jvm.Cond.code ({ cls := "com/example/termspan/termspan/options/Option", name := "flag", desc := "(Ljava/lang/String;Ljava/lang/String;)Lcom/example/termspan/termspan/options/Option;" } : Jvm.MethodName) prog_31_method_6_code (2 : Nat) (Option.some (Jvm.ClassFile.FieldType.object "com/example/termspan/termspan/options/Option"))).before args0 about1 = true := code_word (m := ⟨10, 1⟩) (meth := k10m1) (c := k10c1) (by decide +kernel) rfl rfl rfl (by decide +kernel)
set_option maxRecDepth 65536 in
theorem w_c9 : (Jvm.Cond.code ({ cls := "com/example/termspan/termspan/options/Option", name := "<init>", desc := "(Ljava/lang/String;Ljava/lang/String;Ljava/lang/String;ZZLjava/lang/String;Lcom/example/termspan/termspan/options/Option$Range;)V" } : Jvm.MethodName) prog_31_method_1_code (8 : Nat) (Option.none : Option Jvm.ClassFile.FieldType)).before args0 about1 = true := code_word (m := ⟨10, 0⟩) (meth := k10m0) (c := k10c0) (by decide +kernel) rfl rfl rfl (by decide +kernel)
set_option maxRecDepth 65536 in
theorem w_c10 : (Jvm.Cond.code ({ cls := "java/lang/Record", name := "<init>", desc := "()V" } : Jvm.MethodName) jdk_30_method_1_code (1 : Nat) (Option.none : Option Jvm.ClassFile.FieldType)).before args0 about1 = true := code_word (m := ⟨9, 0⟩) (meth := k9m0) (c := k9c0) (by decide +kernel) rfl rfl rfl (by decide +kernel)
set_option maxRecDepth 65536 in
theorem w_c11 : (Jvm.Cond.code ({ cls := "com/example/termspan/termspan/options/Option", name := "name", desc := "()Ljava/lang/String;" } : Jvm.MethodName) prog_31_method_20_code (1 : Nat) (Option.some (Jvm.ClassFile.FieldType.object "java/lang/String"))).before args0 about1 = true := code_word (m := ⟨10, 3⟩) (meth := k10m3) (c := k10c3) (by decide +kernel) rfl rfl rfl (by decide +kernel)
set_option maxRecDepth 65536 in
theorem w_c12 : (Jvm.Cond.code ({ cls := "java/lang/String", name := "equals", desc := "(Ljava/lang/Object;)Z" } : Jvm.MethodName) jdk_42_method_66_code (3 : Nat) (Option.some Jvm.ClassFile.FieldType.boolean)).before args0 about1 = true := code_word (m := ⟨7, 2⟩) (meth := k7m2) (c := k7c2) (by decide +kernel) rfl rfl rfl (by decide +kernel)
set_option maxRecDepth 65536 in
theorem w_c13 : (Jvm.Cond.code ({ cls := "com/example/termspan/termspan/options/Option", name := "description", desc := "()Ljava/lang/String;" } : Jvm.MethodName) prog_31_method_25_code (1 : Nat) (Option.some (Jvm.ClassFile.FieldType.object "java/lang/String"))).before args0 about1 = true := code_word (m := ⟨10, 8⟩) (meth := k10m8) (c := k10c8) (by decide +kernel) rfl rfl rfl (by decide +kernel)
set_option maxRecDepth 65536 in
theorem w_c14 : (Jvm.Cond.code ({ cls := "com/example/termspan/termspan/options/Option", name := "value", desc := "()Ljava/lang/String;" } : Jvm.MethodName) prog_31_method_21_code (1 : Nat) (Option.some (Jvm.ClassFile.FieldType.object "java/lang/String"))).before args0 about1 = true := code_word (m := ⟨10, 4⟩) (meth := k10m4) (c := k10c4) (by decide +kernel) rfl rfl rfl (by decide +kernel)
set_option maxRecDepth 65536 in
theorem w_c15 : (Jvm.Cond.code ({ cls := "com/example/termspan/termspan/options/Option", name := "fallback", desc := "()Ljava/lang/String;" } : Jvm.MethodName) prog_31_method_22_code (1 : Nat) (Option.some (Jvm.ClassFile.FieldType.object "java/lang/String"))).before args0 about1 = true := code_word (m := ⟨10, 5⟩) (meth := k10m5) (c := k10c5) (by decide +kernel) rfl rfl rfl (by decide +kernel)
set_option maxRecDepth 65536 in
theorem w_c16 : (Jvm.Cond.code ({ cls := "com/example/termspan/termspan/options/Option", name := "required", desc := "()Z" } : Jvm.MethodName) prog_31_method_23_code (1 : Nat) (Option.some Jvm.ClassFile.FieldType.boolean)).before args0 about1 = true := code_word (m := ⟨10, 6⟩) (meth := k10m6) (c := k10c6) (by decide +kernel) rfl rfl rfl (by decide +kernel)
set_option maxRecDepth 65536 in
theorem w_c17 : (Jvm.Cond.code ({ cls := "com/example/termspan/termspan/options/Option", name := "repeatable", desc := "()Z" } : Jvm.MethodName) prog_31_method_24_code (1 : Nat) (Option.some Jvm.ClassFile.FieldType.boolean)).before args0 about1 = true := code_word (m := ⟨10, 7⟩) (meth := k10m7) (c := k10c7) (by decide +kernel) rfl rfl rfl (by decide +kernel)
set_option maxRecDepth 65536 in
theorem w_c18 : (Jvm.Cond.code ({ cls := "com/example/termspan/termspan/options/Option", name := "range", desc := "()Lcom/example/termspan/termspan/options/Option$Range;" } : Jvm.MethodName) prog_31_method_26_code (1 : Nat) (Option.some (Jvm.ClassFile.FieldType.object "com/example/termspan/termspan/options/Option$Range"))).before args0 about1 = true := code_word (m := ⟨10, 9⟩) (meth := k10m9) (c := k10c9) (by decide +kernel) rfl rfl rfl (by decide +kernel)
set_option maxRecDepth 65536 in
theorem w_c19 : (Jvm.Cond.code ({ cls := "com/example/termspan/termspan/options/Option", name := "isFlag", desc := "()Z" } : Jvm.MethodName) prog_31_method_12_code (1 : Nat) (Option.some Jvm.ClassFile.FieldType.boolean)).before args0 about1 = true := code_word (m := ⟨10, 2⟩) (meth := k10m2) (c := k10c2) (by decide +kernel) rfl rfl rfl (by decide +kernel)
def codes1 : List Jvm.Cond := [Jvm.Cond.code x code maxLocals ret, Jvm.Cond.code ({ cls := "com/example/termspan/termspan/options/OptionFlagPinLaw", name := "draw", desc := "(II)Ljava/lang/String;" } : Jvm.MethodName) method_2_code (5 : Nat) (Option.some (Jvm.ClassFile.FieldType.object "java/lang/String")), Jvm.Cond.code ({ cls := "java/lang/String", name := "<init>", desc := "([C)V" } : Jvm.MethodName) jdk_42_method_3_code (2 : Nat) (Option.none : Option Jvm.ClassFile.FieldType), Jvm.Cond.code ({ cls := "java/lang/String", name := "<init>", desc := "([CIILjava/lang/Void;)V" } : Jvm.MethodName) jdk_42_method_149_code (6 : Nat) (Option.none : Option Jvm.ClassFile.FieldType), Jvm.Cond.code ({ cls := "java/lang/Object", name := "<init>", desc := "()V" } : Jvm.MethodName) object_method_1_code (1 : Nat) (Option.none : Option Jvm.ClassFile.FieldType), Jvm.Cond.code ({ cls := "java/lang/StringUTF16", name := "compress", desc := "([CII)[B" } : Jvm.MethodName) jdk_52_method_16_code (6 : Nat) (Option.some (Jvm.ClassFile.FieldType.array Jvm.ClassFile.FieldType.byte)), Jvm.Cond.code ({ cls := "java/lang/StringUTF16", name := "compress", desc := "([CI[BII)I" } : Jvm.MethodName) jdk_52_method_21_code (7 : Nat) (Option.some Jvm.ClassFile.FieldType.int), Jvm.Cond.code ({ cls := "java/lang/StringUTF16", name := "coderFromArrayLen", desc := "([BI)B" } : Jvm.MethodName) jdk_52_method_15_code (2 : Nat) (Option.some Jvm.ClassFile.FieldType.byte), Jvm.Cond.code ({ cls := "com/example/termspan/termspan/options/Option", name := "flag", desc := "(Ljava/lang/String;Ljava/lang/String;)Lcom/example/termspan/termspan/options/Option;" } : Jvm.MethodName) prog_31_method_6_code (2 : Nat) (Option.some (Jvm.ClassFile.FieldType.object "com/example/termspan/termspan/options/Option")), Jvm.Cond.code ({ cls := "com/example/termspan/termspan/options/Option", name := "<init>", desc := "(Ljava/lang/String;Ljava/lang/String;Ljava/lang/String;ZZLjava/lang/String;Lcom/example/termspan/termspan/options/Option$Range;)V" } : Jvm.MethodName) prog_31_method_1_code (8 : Nat) (Option.none : Option Jvm.ClassFile.FieldType), Jvm.Cond.code ({ cls := "java/lang/Record", name := "<init>", desc := "()V" } : Jvm.MethodName) jdk_30_method_1_code (1 : Nat) (Option.none : Option Jvm.ClassFile.FieldType), Jvm.Cond.code ({ cls := "com/example/termspan/termspan/options/Option", name := "name", desc := "()Ljava/lang/String;" } : Jvm.MethodName) prog_31_method_20_code (1 : Nat) (Option.some (Jvm.ClassFile.FieldType.object "java/lang/String")), Jvm.Cond.code ({ cls := "java/lang/String", name := "equals", desc := "(Ljava/lang/Object;)Z" } : Jvm.MethodName) jdk_42_method_66_code (3 : Nat) (Option.some Jvm.ClassFile.FieldType.boolean), Jvm.Cond.code ({ cls := "com/example/termspan/termspan/options/Option", name := "description", desc := "()Ljava/lang/String;" } : Jvm.MethodName) prog_31_method_25_code (1 : Nat) (Option.some (Jvm.ClassFile.FieldType.object "java/lang/String")), Jvm.Cond.code ({ cls := "com/example/termspan/termspan/options/Option", name := "value", desc := "()Ljava/lang/String;" } : Jvm.MethodName) prog_31_method_21_code (1 : Nat) (Option.some (Jvm.ClassFile.FieldType.object "java/lang/String")), Jvm.Cond.code ({ cls := "com/example/termspan/termspan/options/Option", name := "fallback", desc := "()Ljava/lang/String;" } : Jvm.MethodName) prog_31_method_22_code (1 : Nat) (Option.some (Jvm.ClassFile.FieldType.object "java/lang/String")), Jvm.Cond.code ({ cls := "com/example/termspan/termspan/options/Option", name := "required", desc := "()Z" } : Jvm.MethodName) prog_31_method_23_code (1 : Nat) (Option.some Jvm.ClassFile.FieldType.boolean), Jvm.Cond.code ({ cls := "com/example/termspan/termspan/options/Option", name := "repeatable", desc := "()Z" } : Jvm.MethodName) prog_31_method_24_code (1 : Nat) (Option.some Jvm.ClassFile.FieldType.boolean), Jvm.Cond.code ({ cls := "com/example/termspan/termspan/options/Option", name := "range", desc := "()Lcom/example/termspan/termspan/options/Option$Range;" } : Jvm.MethodName) prog_31_method_26_code (1 : Nat) (Option.some (Jvm.ClassFile.FieldType.object "com/example/termspan/termspan/options/Option$Range")), Jvm.Cond.code ({ cls := "com/example/termspan/termspan/options/Option", name := "isFlag", desc := "()Z" } : Jvm.MethodName) prog_31_method_12_code (1 : Nat) (Option.some Jvm.ClassFile.FieldType.boolean)]
set_option maxRecDepth 65536 in
theorem codes_eq : words1.filter isCode = codes1 := rfl
theorem w_codes : ∀ c ∈ words1.filter isCode, c.before args0 about1 = true := by
  rw [codes_eq]
  intro c hc
  simp only [codes1, List.mem_cons, List.not_mem_nil, or_false] at hc
  rcases hc with rfl | rfl | rfl | rfl | rfl | rfl | rfl | rfl | rfl | rfl | rfl | rfl | rfl | rfl | rfl | rfl | rfl | rfl | rfl | rfl
  · exact w_c0
  · exact w_c1
  · exact w_c2
  · exact w_c3
  · exact w_c4
  · exact w_c5
  · exact w_c6
  · exact w_c7
  · exact w_c8
  · exact w_c9
  · exact w_c10
  · exact w_c11
  · exact w_c12
  · exact w_c13
  · exact w_c14
  · exact w_c15
  · exact w_c16
  · exact w_c17
  · exact w_c18
  · exact w_c19
set_option maxRecDepth 65536 in
theorem w_t1 : (words1.take 24).all (fun c => isCode c || c.before args0 about1) = true := by decide +kernel
set_option maxRecDepth 65536 in
theorem w_t2 : ((words1.drop 24).take 24).all (fun c => isCode c || c.before args0 about1) = true := by decide +kernel
set_option maxRecDepth 65536 in
theorem w_t3 : (((words1.drop 24).drop 24).take 24).all (fun c => isCode c || c.before args0 about1) = true := by decide +kernel
set_option maxRecDepth 65536 in
theorem w_t4 : ((((words1.drop 24).drop 24).drop 24).take 24).all (fun c => isCode c || c.before args0 about1) = true := by decide +kernel
set_option maxRecDepth 65536 in
theorem w_t5 : ((((words1.drop 24).drop 24).drop 24).drop 24).all (fun c => isCode c || c.before args0 about1) = true := by decide +kernel
theorem w_tables : (allAtoms (Jvm.Cond.code x code maxLocals ret :: tables_1)).before args0 about1 = true := by
  rw [allAtoms_all]
  show words1.all (fun c => c.before args0 about1) = true
  refine all_split ?_ w_codes
  rw [← List.take_append_drop 24 words1, List.all_append, w_t1, ← List.take_append_drop 24 (words1.drop 24), List.all_append, w_t2, ← List.take_append_drop 24 ((words1.drop 24).drop 24), List.all_append, w_t3, ← List.take_append_drop 24 (((words1.drop 24).drop 24).drop 24), List.all_append, w_t4, w_t5]
  rfl
set_option maxRecDepth 65536 in
theorem w_rest : rest_1_c.before args0 about1 = true := by decide +kernel
set_option maxRecDepth 65536 in
theorem w_case : (Jvm.Cond.and given_1 narrow_1).before args0 about1 = true := by decide +kernel
set_option maxRecDepth 65536 in
theorem w_consts : constsHeld consts_1 about1 := Jvm.Lit.constsHeldB_iff.mp (by decide +kernel)
theorem w_applies : (headSpec (Jvm.Cond.code x code maxLocals ret :: tables_1) room_1).applies x e0.platform about1 = true :=
  (Spec.applies_iff w_frames).mpr ⟨w_running, w_runnable, w_alone, w_named, w_hears, w_ripe, w_room, w_tables⟩
theorem atStart : AtStart classFile x code maxLocals ret World_1 tables_1 room_1 Calls_1 rest_1 Pre_1 launch0 p0 e0 about1 theMethod args0 below0 :=
  ⟨lists_1, trivial, launch0.admits_env _ _ _, launch0.least_env, fairChoices_fair.cas, fairChoices_fair.clock, w_frames, w_args, w_heap, w_applies, ⟨w_consts, trivial⟩, w_rest, w_case⟩
end start1
theorem witness_1 : WitnessClaimed_1 := ⟨start1.p0, start1.e0, start1.about1, start1.theMethod, start1.args0, start1.below0, start1.atStart⟩
end Jvm.Pilot.@@N@@
