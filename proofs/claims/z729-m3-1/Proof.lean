import JvmDerived
import JvmDerived.Pilot.@@N@@Statement
import JvmDerived.Pilot.@@N@@Code
set_option linter.unusedVariables false
set_option linter.unusedSimpArgs false
namespace Jvm.RoadKit
open Sem ClassFile Op Lib Jvm.Stand Jvm.Free Jvm.LawKit
section New
variable {p : Program} {l : Launch} {e : Env} {R : Room} {s : State} {m : MethodId} {args : Array Value} {below : List Frame} {meth : Method} {c : Code} {T : State} {locs : List Loc} {cells slots : Nat}
theorem retI (X : Stand p l e R s m args below meth c T locs cells slots) (hx : p.tables.exec = Jvm.exec) {pc : Nat} {Ls : Array Slot} {z : Int32} {rest : List Value} (hret : meth.sig.returnType = some .int) (hd : decode c.code pc = .ok (.ireturn, 1)) {fs : List Frame}
    (hl : ∀ (f : JFrame) (acts : List Action), f.method = m → f.locked = none → f.entered = [] → (doReturn e (T.setTop f) acts (some (.int z))).1 = T.setFrames fs) : Steps p.tables e below (T.setTop (mkF m pc Ls (.int z :: rest))) (T.setFrames fs) :=
  retOut X hx hret rfl (Or.inl ⟨rfl, Or.inl rfl, z, rfl⟩) hd hl
end New
end Jvm.RoadKit
namespace Jvm.Pilot.@@N@@
open Jvm Jvm.ClassFile Sem Op Lib Jvm.Free Jvm.Stand Jvm.LawKit Jvm.RoadKit Bundle Jvm.Pilot.@@N@@.Jvm.D
section OwnKit
variable {p : Program} {l : Launch} {e : Env} {R : Room} {s s' : State} {m : MethodId} {args : Array Value} {below : List Frame} {meth : Method} {c : Code} {T T' : State} {locs : List Loc} {cells slots : Nat} {g g' : JFrame} {Z : State} {a0 : Array Value} {h : Heap} {Q : Option Value → Heap → List Loc → Prop} {k n : Nat} {E : State → Outcome → State → List Loc → Nat → Nat → Prop}
/-- the run goes on from here to its end, and the end is as Q and the frame E say -/
def Fin (E : State → Outcome → State → List Loc → Nat → Nat → Prop) (p : Program) (e : Env) (below : List Frame) (s : State) (Q : Option Value → Heap → List Loc → Prop) (k n : Nat) (T : State) (g : JFrame) : Prop :=
  ∃ (s₂ : State) (o : Outcome), Steps p.tables e below (T.setTop g) s₂ ∧ s₂.status = .running ∧ Ended s₂ below o ∧ ∃ v L, o = .returned v ∧ Q v s₂.heap L ∧ E s o s₂ L k n
theorem Fin.go (st : ∀ t, Steps p.tables e below (T'.setTop g') t → Steps p.tables e below (T.setTop g) t) (w : Fin E p e below s Q k n T' g') : Fin E p e below s Q k n T g := by
  obtain ⟨s₂, o, h1, r⟩ := w
  exact ⟨s₂, o, st _ h1, r⟩
theorem Fin.came (st : Steps p.tables e below (T.setTop g) (T'.setTop g')) (w : Fin E p e below s Q k n T' g') : Fin E p e below s Q k n T g := by
  obtain ⟨s₂, o, h1, r⟩ := w
  exact ⟨s₂, o, st.trans h1, r⟩
theorem Fin.leaveN (X : Stand p l e R s m args below meth c T locs cells slots) (eT : T.heap = h) (hlk : meth.locks = false) {v : Option Value} (hv : meth.sig.returnType = none → v = none) (hk : cells ≤ k) (hn : slots ≤ n) (hq : Q v h locs)
    (st : ∀ fs, (∀ (f : JFrame) (acts : List Action), f.method = m → f.locked = none → f.entered = [] → (doReturn e (T.setTop f) acts v).1 = T.setFrames fs) → Steps p.tables e below (T.setTop g) (T.setFrames fs)) : Fin FrameEnd p e below s Q k n T g := by
  subst eT
  obtain ⟨fs, hr, hrun, hended, hW, hsame⟩ := X.leave hv hlk
  exact ⟨_, _, st fs hr, hrun, hended, v, locs, rfl, hq, ⟨v, rfl⟩, hW, hsame.mono hk hn⟩
/-- a body's contract: called with these arguments at this heap, it comes back as Q says -/
abbrev ConW (E : State → Outcome → State → List Loc → Nat → Nat → Prop) (l : Launch) (Z : State) (ws : List Jvm.Cond) (y : MethodName) (bytes : ByteArray) (maxL : Nat) (ret : Option FieldType) (rm : Room) (as' : Array Value) (h : Heap) (Q : Option Value → Heap → List Loc → Prop) : Prop :=
  MetFree l y (head1 (Jvm.Cond.code y bytes maxL ret :: ws) rm) (fun a U => a = as' ∧ Z.Warmed39 U.vm ∧ U.heap = h) (fun _ _ _ _ _ => True) (fun _ U o U' => ∃ v L, o = .returned v ∧ Q v U'.heap L ∧ E U o U' L rm.cells rm.slots)
abbrev Con (E : State → Outcome → State → List Loc → Nat → Nat → Prop) (l : Launch) (Z : State) (y : MethodName) (bytes : ByteArray) (maxL : Nat) (ret : Option FieldType) (rm : Room) (as' : Array Value) (h : Heap) (Q : Option Value → Heap → List Loc → Prop) : Prop := ConW E l Z [] y bytes maxL ret rm as' h Q
theorem conOf {ws : List Jvm.Cond} {y : MethodName} {bytes : ByteArray} {maxL : Nat} {ret : Option FieldType} {rm : Room} {as' : Array Value} (hpn : plainFor y = true)
    (body : ∀ (p : Program) (e : Env) (s : State) (m : MethodId) (below : List Frame) (meth : Method) (c : Code) (s₁ : State), Stand p l e rm s m as' below meth c s₁ [] 0 0 → p.tables.exec = Jvm.exec → c.code = bytes → c.maxLocals = maxL → s.vm.findClass y.cls = some m.cls → meth.name = y.name →
      meth.sig.returnType = ret → meth.locks = false → Z.Warmed39 s.vm → s₁.heap = h → Fin E p e below s Q rm.cells rm.slots s₁ (entryFrame m as' maxL)) : ConW E l Z ws y bytes maxL ret rm as' h Q := by
  refine MetFree.of_bodySF hpn hisR ?_
  intro p e s m args below meth c s₁ Bd hml hP hK
  obtain ⟨rfl, hZ, hh⟩ := hP
  exact body p e s m below meth c s₁ (Stand.of_body Bd) Bd.exec Bd.bytes hml (findClass_of_methodNamed Bd.named) (name_of_methodNamed Bd.named Bd.method).1 Bd.returns (BodyLoose.notSynchronized Bd) hZ (by rw [← hh, Bd.state]; rfl)
/-- nothing moved; r is returned -/
abbrev Pure (h0 : Heap) (r : Option Value) : Option Value → Heap → List Loc → Prop := fun v h L => v = r ∧ h = h0 ∧ L = []
theorem nar_refv {v : Value} {t : FieldType} (h : v.isRef = true) (ht : t.isReference = true) : narrow t v = v := by
  rcases ref_cases h with rfl | ⟨a, rfl⟩ <;> cases t <;> first | rfl | (simp [FieldType.isReference] at ht)
theorem fits_refv {v : Value} {t : FieldType} (h : v.isRef = true) (ht : t.isReference = true) : fits t v = true := by
  rcases ref_cases h with rfl | ⟨a, rfl⟩ <;> cases t <;> first | rfl | (simp [FieldType.isReference] at ht)
theorem nar_b8 (x : Int32) : nar .byte ((Int32.toInt8 x).toInt32) = (Int32.toInt8 x).toInt32 := by simp [nar]
theorem nar_c16 (x : Int32) : nar .char ((Int32.toUInt32 x).toUInt16.toUInt32.toInt32) = (Int32.toUInt32 x).toUInt16.toUInt32.toInt32 := by simp only [nar, UInt32.toUInt32_toInt32, UInt16.toUInt16_toUInt32]
section Calls
variable {own : String} {index : Nat} {y z : MethodName} {bytes : ByteArray} {maxL : Nat} {ret : Option FieldType} {rm : Room} {W : Nat} {Qc : Option Value → Heap → List Loc → Prop} {argsL rest : List Value}
theorem callSt (X : Stand p l e R s m args below meth c T locs cells slots) (hx : p.tables.exec = Jvm.exec) (hZ : Z.Warmed39 s.vm) (hown : s.vm.findClass own = some m.cls)
    (w1 : (Jvm.Cond.methodLink own index y).before a0 Z = true) (w2 : (Jvm.Cond.static y).before a0 Z = true) (w3 : (Jvm.Cond.initialized y.cls).before a0 Z = true) (w4 : (Jvm.Cond.code y bytes maxL ret).before a0 Z = true) (hy : y.cls ≠ "java/lang/invoke/MethodHandle" ∧ y.cls ≠ "java/lang/invoke/VarHandle")
    (hC : Con FrameEnd l Z y bytes maxL ret rm argsL.toArray h Qc) (eT : T.heap = h) (hf : rm.frames + 1 ≤ R.frames) (hl : W + (maxL + 11) + rm.locals ≤ R.locals) (hc : cells + rm.cells ≤ R.cells) (hs : slots + rm.slots ≤ R.slots)
    (hg : g.method = m) (hsize : g.locals.size = c.maxLocals) (hlen : ∀ sig, parseMethodDescriptor y.desc = some sig → argsL.length = sig.parameters.length) (hstack : g.stack = argsL.reverse ++ rest) (hW : 2 * g.monitorRoom + (rest.map fun v => v.category).sum ≤ W) (hdg : decode c.code g.pc = .ok (.invokestatic index, 3)) :
    ∃ (v : Option Value) (T' : State) (L : List Loc), Stand p l e R s m args below meth c T' (locs ++ L) (cells + rm.cells) (slots + rm.slots) ∧ Qc v T'.heap L ∧ ∀ target, Steps p.tables e below (T'.setTop { g with pc := g.pc + 3, stack := v.toList ++ rest }) target → Steps p.tables e below (T.setTop g) target := by
  obtain ⟨v, _, ⟨T2, L2, k2, n2⟩, -, X2, ⟨Lc2, hQ2, l2, y2, z2⟩, st2⟩ := Jvm.LawKit.callS X hx hown (mvT hZ w1) (mvT hZ w2) (mvT hZ w3) (mvT hZ w4) hy (backOf (W := W) hC hZ w4 w3 hf hl) hg hsize hlen hstack hW hdg (fun _ _ => ⟨rfl, eT, hc, hs⟩)
  dsimp only [Pt.U, Pt.locs, Pt.cells, Pt.slots] at X2 l2 y2 z2 st2 hQ2
  subst l2 y2 z2
  exact ⟨v, T2, Lc2, X2, hQ2, st2⟩
theorem callCt (X : Stand p l e R s m args below meth c T locs cells slots) (hx : p.tables.exec = Jvm.exec) (hZ : Z.Warmed39 s.vm) (hy1 : y.name = "<init>") (hown : s.vm.findClass own = some m.cls)
    (w1 : (Jvm.Cond.methodLink own index y).before a0 Z = true) (w2 : (Jvm.Cond.instanceMethod y).before a0 Z = true) (w3 : (Jvm.Cond.initialized y.cls).before a0 Z = true) (w4 : (Jvm.Cond.code y bytes maxL none).before a0 Z = true) (hy : y.cls ≠ "java/lang/invoke/MethodHandle" ∧ y.cls ≠ "java/lang/invoke/VarHandle")
    {a : Addr} (hC : Con FrameEnd l Z y bytes maxL none rm (.ref a :: argsL).toArray h Qc) (eT : T.heap = h) (hf : rm.frames + 1 ≤ R.frames) (hl : W + (maxL + 11) + rm.locals ≤ R.locals) (hc : cells + rm.cells ≤ R.cells) (hs : slots + rm.slots ≤ R.slots)
    (hg : g.method = m) (hsize : g.locals.size = c.maxLocals) (hlen : ∀ sig, parseMethodDescriptor y.desc = some sig → argsL.length = sig.parameters.length) (hstack : g.stack = argsL.reverse ++ .ref a :: rest) (hW : 2 * g.monitorRoom + (rest.map fun v => v.category).sum ≤ W) (hdg : decode c.code g.pc = .ok (.invokespecial index, 3)) :
    ∃ (v : Option Value) (T' : State) (L : List Loc), Stand p l e R s m args below meth c T' (locs ++ L) (cells + rm.cells) (slots + rm.slots) ∧ Qc v T'.heap L ∧ ∀ target, Steps p.tables e below (T'.setTop { g with pc := g.pc + 3, stack := v.toList ++ rest }) target → Steps p.tables e below (T.setTop g) target := by
  obtain ⟨v, _, ⟨T2, L2, k2, n2⟩, -, X2, ⟨Lc2, hQ2, l2, y2, z2⟩, st2⟩ := X.specialBack hx hy1 hown (mvT hZ w1) (mvT hZ w2) (mvT hZ w4) hy (backOf (W := W) hC hZ w4 w3 hf hl) hg hsize (Steps.refl _) hlen hstack hW hdg (fun _ _ => ⟨rfl, eT, hc, hs⟩)
  dsimp only [Pt.U, Pt.locs, Pt.cells, Pt.slots] at X2 l2 y2 z2 st2 hQ2
  subst l2 y2 z2
  exact ⟨v, T2, Lc2, X2, hQ2, fun _ k => st2.trans k⟩
theorem callVt {C : String} (X : Stand p l e R s m args below meth c T locs cells slots) (hx : p.tables.exec = Jvm.exec) (hZ : Z.Warmed39 s.vm) (hown : s.vm.findClass own = some m.cls)
    (w1 : (Jvm.Cond.methodLink own index y).before a0 Z = true) (w2 : (Jvm.Cond.declares y).before a0 Z = true) (w3 : (Jvm.Cond.selects C y y).before a0 Z = true) (w4 : (Jvm.Cond.instanceMethod y).before a0 Z = true) (w5 : (Jvm.Cond.initialized y.cls).before a0 Z = true) (w6 : (Jvm.Cond.code y bytes maxL ret).before a0 Z = true)
    (hy : y.cls ≠ "java/lang/invoke/MethodHandle" ∧ y.cls ≠ "java/lang/invoke/VarHandle")
    {a : Addr} (hC : Con FrameEnd l Z y bytes maxL ret rm (.ref a :: argsL).toArray h Qc) (eT : T.heap = h) (EA : Exa Z h a C) (hf : rm.frames + 1 ≤ R.frames) (hl : W + (maxL + 11) + rm.locals ≤ R.locals) (hc : cells + rm.cells ≤ R.cells) (hs : slots + rm.slots ≤ R.slots)
    (hg : g.method = m) (hsize : g.locals.size = c.maxLocals) (hlen : ∀ sig, parseMethodDescriptor y.desc = some sig → argsL.length = sig.parameters.length) (hstack : g.stack = argsL.reverse ++ .ref a :: rest) (hW : 2 * g.monitorRoom + (rest.map fun v => v.category).sum ≤ W) (hdg : decode c.code g.pc = .ok (.invokevirtual index, 3)) :
    ∃ (v : Option Value) (T' : State) (L : List Loc), Stand p l e R s m args below meth c T' (locs ++ L) (cells + rm.cells) (slots + rm.slots) ∧ Qc v T'.heap L ∧ ∀ target, Steps p.tables e below (T'.setTop { g with pc := g.pc + 3, stack := v.toList ++ rest }) target → Steps p.tables e below (T.setTop g) target := by
  obtain ⟨cq, kq, qa, qb, qc⟩ := isOf hZ eT EA
  obtain ⟨v, _, ⟨T2, L2, k2, n2⟩, -, X2, ⟨Lc2, hQ2, l2, y2, z2⟩, st2⟩ := X.virtualBack hx hown (mvT hZ w1) (mvT hZ w2) (notFace_of_selects (args := #[]) (mvT hZ w3)) (mvT hZ w3) (mvT hZ w4) hy (backOf (W := W) hC hZ w6 w5 hf hl) qa qc hg hsize (Steps.refl _) hlen hstack hW hdg (fun _ _ => ⟨rfl, eT, hc, hs⟩)
  dsimp only [Pt.U, Pt.locs, Pt.cells, Pt.slots] at X2 l2 y2 z2 st2 hQ2
  subst l2 y2 z2
  exact ⟨v, T2, Lc2, X2, hQ2, fun _ k => st2.trans k⟩
theorem callVUt {C owner : String} (X : Stand p l e R s m args below meth c T locs cells slots) (hx : p.tables.exec = Jvm.exec) (hZ : Z.Warmed39 s.vm) (hown : s.vm.findClass own = some m.cls)
    (w1 : (Jvm.Cond.methodLink own index y).before a0 Z = true) (w1' : (Jvm.Cond.sameMethod y.cls owner y.name y.desc).before a0 Z = true) (w2 : (Jvm.Cond.declares ⟨owner, y.name, y.desc⟩).before a0 Z = true) (w3 : (Jvm.Cond.selects C y z).before a0 Z = true) (w4 : (Jvm.Cond.instanceMethod z).before a0 Z = true) (w5 : (Jvm.Cond.initialized z.cls).before a0 Z = true) (w6 : (Jvm.Cond.code z bytes maxL ret).before a0 Z = true)
    (hy : owner ≠ "java/lang/invoke/MethodHandle" ∧ owner ≠ "java/lang/invoke/VarHandle")
    {a : Addr} (hC : Con FrameEnd l Z z bytes maxL ret rm (.ref a :: argsL).toArray h Qc) (eT : T.heap = h) (EA : Exa Z h a C) (hf : rm.frames + 1 ≤ R.frames) (hl : W + (maxL + 11) + rm.locals ≤ R.locals) (hc : cells + rm.cells ≤ R.cells) (hs : slots + rm.slots ≤ R.slots)
    (hg : g.method = m) (hsize : g.locals.size = c.maxLocals) (hlen : ∀ sig, parseMethodDescriptor y.desc = some sig → argsL.length = sig.parameters.length) (hstack : g.stack = argsL.reverse ++ .ref a :: rest) (hW : 2 * g.monitorRoom + (rest.map fun v => v.category).sum ≤ W) (hdg : decode c.code g.pc = .ok (.invokevirtual index, 3)) :
    ∃ (v : Option Value) (T' : State) (L : List Loc), Stand p l e R s m args below meth c T' (locs ++ L) (cells + rm.cells) (slots + rm.slots) ∧ Qc v T'.heap L ∧ ∀ target, Steps p.tables e below (T'.setTop { g with pc := g.pc + 3, stack := v.toList ++ rest }) target → Steps p.tables e below (T.setTop g) target := by
  obtain ⟨cq, kq, qa, qb, qc⟩ := isOf hZ eT EA
  obtain ⟨v, _, ⟨T2, L2, k2, n2⟩, -, X2, ⟨Lc2, hQ2, l2, y2, z2⟩, st2⟩ := X.virtualBackUp hx hown (mvT hZ w1) (mvT hZ w1') (mvT hZ w2) hy (mvT hZ w3) (mvT hZ w4) (backOf (W := W) hC hZ w6 w5 hf hl) qa qc hg hsize (Steps.refl _) hlen hstack hW hdg (fun _ _ => ⟨rfl, eT, hc, hs⟩)
  dsimp only [Pt.U, Pt.locs, Pt.cells, Pt.slots] at X2 l2 y2 z2 st2 hQ2
  subst l2 y2 z2
  exact ⟨v, T2, Lc2, X2, hQ2, fun _ k => st2.trans k⟩
end Calls
end OwnKit
section OwnWide
variable {p : Program} {l : Launch} {e : Env} {R : Room} {s s' : State} {m : MethodId} {args : Array Value} {below : List Frame} {meth : Method} {c : Code} {T T' : State} {locs : List Loc} {cells slots : Nat} {g g' : JFrame} {Z : State} {a0 : Array Value} {h : Heap} {Q : Option Value → Heap → List Loc → Prop} {k n : Nat} {vm0 : Vm} {k0 : Nat} {EL : List (String × Nat)}
/-- the wide frame, with the invariant on the String constants -/
def EH (Z : State) (EL : List (String × Nat)) : State → Outcome → State → List Loc → Nat → Nat → Prop := fun s o t L k n => CHr Z EL s.vm s.heap t.vm t.heap ∧ ReturnedEndW s o t L k n
abbrev ConHW (l : Launch) (Z : State) (EL : List (String × Nat)) (ws : List Jvm.Cond) (y : MethodName) (bytes : ByteArray) (maxL : Nat) (ret : Option FieldType) (rm : Room) (as' : Array Value) (h : Heap) (Q : Option Value → Heap → List Loc → Prop) : Prop :=
  MetFree l y (head1 (Jvm.Cond.code y bytes maxL ret :: ws) rm) (fun a U => a = as' ∧ Z.Warmed39 U.vm ∧ U.heap = h ∧ CHv Z EL U.vm h) (fun _ _ _ _ _ => True) (fun _ U o U' => ∃ v L, o = .returned v ∧ Q v U'.heap L ∧ CHr Z EL U.vm U.heap U'.vm U'.heap ∧ ReturnedEndW U o U' L rm.cells rm.slots)
abbrev ConH (l : Launch) (Z : State) (EL : List (String × Nat)) (y : MethodName) (bytes : ByteArray) (maxL : Nat) (ret : Option FieldType) (rm : Room) (as' : Array Value) (h : Heap) (Q : Option Value → Heap → List Loc → Prop) : Prop := ConHW l Z EL [] y bytes maxL ret rm as' h Q
theorem conOfH {ws : List Jvm.Cond} {y : MethodName} {bytes : ByteArray} {maxL : Nat} {ret : Option FieldType} {rm : Room} {as' : Array Value} (hpn : plainFor y = true)
    (body : ∀ (p : Program) (e : Env) (s : State) (m : MethodId) (below : List Frame) (meth : Method) (c : Code) (s₁ : State), Stand p l e rm (s.setVm s.vm) m as' below meth c s₁ [] 0 0 → p.tables.exec = Jvm.exec → c.code = bytes → c.maxLocals = maxL → (s.setVm s.vm).vm.findClass y.cls = some m.cls → meth.name = y.name →
      meth.sig.returnType = ret → meth.locks = false → Z.Warmed39 (s.setVm s.vm).vm → s₁.heap = h → s.Since s.vm 0 → CHr Z EL s.vm s.heap s.vm h → Fin (EH Z EL) p e below s Q rm.cells rm.slots s₁ (entryFrame m as' maxL)) : ConHW l Z EL ws y bytes maxL ret rm as' h Q := by
  refine MetFree.of_bodySF hpn hisR ?_
  intro p e s m args below meth c s₁ Bd hml hP hK
  obtain ⟨rfl, hZ, rfl, hC⟩ := hP
  exact body p e s m below meth c s₁ (Stand.of_body Bd) Bd.exec Bd.bytes hml (findClass_of_methodNamed Bd.named) (name_of_methodNamed Bd.named Bd.method).1 Bd.returns (BodyLoose.notSynchronized Bd) hZ (by rw [Bd.state]; rfl) ((State.WarmedH.refl s).since 0) (CHr.refl hC)
theorem Fin.leaveH (X : Stand p l e R (s.setVm vm0) m args below meth c T locs cells slots) (hS : s.Since vm0 k0) (hk0 : k0 ≤ h.size) (hZ : Z.Warmed39 (s.setVm vm0).vm) (hEL : EW Z a0 EL) (eT : T.heap = h) (RR : CHr Z EL s.vm s.heap vm0 h) (hlk : meth.locks = false) {v : Option Value} (hv : meth.sig.returnType = none → v = none) (hk : cells ≤ k) (hn : slots ≤ n) (hq : Q v h locs)
    (st : ∀ fs, (∀ (f : JFrame) (acts : List Action), f.method = m → f.locked = none → f.entered = [] → (doReturn e (T.setTop f) acts v).1 = T.setFrames fs) → Steps p.tables e below (T.setTop g) (T.setFrames fs)) : Fin (EH Z EL) p e below s Q k n T g := by
  subst eT
  obtain ⟨fs, hr, hrun, hended, h1, h2, h3, h4⟩ := X.leaveW hS hk0 hv hlk
  exact ⟨_, _, st fs hr, hrun, hended, v, locs, rfl, hq, RR.trans (CHv.at X hZ hEL RR.1 : CHr Z EL vm0 T.heap T.vm T.heap), h1, h2, h3, h4.mono hk hn⟩
section CallsH
variable {own : String} {index : Nat} {y z : MethodName} {bytes : ByteArray} {maxL : Nat} {ret : Option FieldType} {rm : Room} {W : Nat} {Qc : Option Value → Heap → List Loc → Prop} {argsL rest : List Value}
theorem callStH (X : Stand p l e R (s.setVm vm0) m args below meth c T locs cells slots) (hx : p.tables.exec = Jvm.exec) (hZ : Z.Warmed39 (s.setVm vm0).vm) (hown : (s.setVm vm0).vm.findClass own = some m.cls)
    (w1 : (Jvm.Cond.methodLink own index y).before a0 Z = true) (w2 : (Jvm.Cond.static y).before a0 Z = true) (w3 : (Jvm.Cond.initialized y.cls).before a0 Z = true) (w4 : (Jvm.Cond.code y bytes maxL ret).before a0 Z = true) (hy : y.cls ≠ "java/lang/invoke/MethodHandle" ∧ y.cls ≠ "java/lang/invoke/VarHandle")
    (hC : ConH l Z EL y bytes maxL ret rm argsL.toArray h Qc) (eT : T.heap = h) (hS : s.Since vm0 k0) (hk : k0 ≤ h.size) (hEL : EW Z a0 EL) (H : CHv Z EL vm0 h) (hf : rm.frames + 1 ≤ R.frames) (hl : W + (maxL + 11) + rm.locals ≤ R.locals) (hc : cells + rm.cells ≤ R.cells) (hs : slots + rm.slots ≤ R.slots)
    (hg : g.method = m) (hsize : g.locals.size = c.maxLocals) (hlen : ∀ sig, parseMethodDescriptor y.desc = some sig → argsL.length = sig.parameters.length) (hstack : g.stack = argsL.reverse ++ rest) (hW : 2 * g.monitorRoom + (rest.map fun v => v.category).sum ≤ W) (hdg : decode c.code g.pc = .ok (.invokestatic index, 3)) :
    ∃ (v : Option Value) (T' : State) (L : List Loc), Stand p l e R (s.setVm T'.vm) m args below meth c T' (locs ++ L) (cells + rm.cells) (slots + rm.slots) ∧ s.Since T'.vm T'.heap.size ∧ Z.Warmed39 (s.setVm T'.vm).vm ∧ (s.setVm T'.vm).vm.findClass own = some m.cls ∧ CHr Z EL vm0 h T'.vm T'.heap ∧ Qc v T'.heap L ∧
      ∀ target, Steps p.tables e below (T'.setTop { g with pc := g.pc + 3, stack := v.toList ++ rest }) target → Steps p.tables e below (T.setTop g) target := by
  obtain ⟨v, _, ⟨T2, L2, k2, n2⟩, -, X2, hS2, hg2, ⟨Lc2, hQ2, l2, y2, z2, hC2⟩, st2⟩ := callSS X hx hown (mvT hZ w1) (mvT hZ w2) (mvT hZ w3) (mvT hZ w4) hy (backOfSH (W := W) hC hZ w4 w3 hf hl hEL H) hg hsize hlen hstack hW hdg (fun _ _ => ⟨rfl, eT, hc, hs⟩)
  dsimp only [Pt.U, Pt.locs, Pt.cells, Pt.slots] at X2 hS2 hg2 l2 y2 z2 st2 hQ2 hC2
  subst l2 y2 z2 eT
  obtain ⟨X3, hS3, hZ3, hown3⟩ := rebS hS hk X2 hS2 hg2 hZ hown
  exact ⟨v, T2, Lc2, X3, hS3, hZ3, hown3, hC2, hQ2, fun _ k => st2.trans k⟩
theorem callCtH (X : Stand p l e R (s.setVm vm0) m args below meth c T locs cells slots) (hx : p.tables.exec = Jvm.exec) (hZ : Z.Warmed39 (s.setVm vm0).vm) (hy1 : y.name = "<init>") (hown : (s.setVm vm0).vm.findClass own = some m.cls)
    (w1 : (Jvm.Cond.methodLink own index y).before a0 Z = true) (w2 : (Jvm.Cond.instanceMethod y).before a0 Z = true) (w3 : (Jvm.Cond.initialized y.cls).before a0 Z = true) (w4 : (Jvm.Cond.code y bytes maxL none).before a0 Z = true) (hy : y.cls ≠ "java/lang/invoke/MethodHandle" ∧ y.cls ≠ "java/lang/invoke/VarHandle")
    {a : Addr} (hC : ConH l Z EL y bytes maxL none rm (.ref a :: argsL).toArray h Qc) (eT : T.heap = h) (hS : s.Since vm0 k0) (hk : k0 ≤ h.size) (hEL : EW Z a0 EL) (H : CHv Z EL vm0 h) (hf : rm.frames + 1 ≤ R.frames) (hl : W + (maxL + 11) + rm.locals ≤ R.locals) (hc : cells + rm.cells ≤ R.cells) (hs : slots + rm.slots ≤ R.slots)
    (hg : g.method = m) (hsize : g.locals.size = c.maxLocals) (hlen : ∀ sig, parseMethodDescriptor y.desc = some sig → argsL.length = sig.parameters.length) (hstack : g.stack = argsL.reverse ++ .ref a :: rest) (hW : 2 * g.monitorRoom + (rest.map fun v => v.category).sum ≤ W) (hdg : decode c.code g.pc = .ok (.invokespecial index, 3)) :
    ∃ (v : Option Value) (T' : State) (L : List Loc), Stand p l e R (s.setVm T'.vm) m args below meth c T' (locs ++ L) (cells + rm.cells) (slots + rm.slots) ∧ s.Since T'.vm T'.heap.size ∧ Z.Warmed39 (s.setVm T'.vm).vm ∧ (s.setVm T'.vm).vm.findClass own = some m.cls ∧ CHr Z EL vm0 h T'.vm T'.heap ∧ Qc v T'.heap L ∧
      ∀ target, Steps p.tables e below (T'.setTop { g with pc := g.pc + 3, stack := v.toList ++ rest }) target → Steps p.tables e below (T.setTop g) target := by
  obtain ⟨v, _, ⟨T2, L2, k2, n2⟩, -, X2, hS2, hg2, ⟨Lc2, hQ2, l2, y2, z2, hC2⟩, st2⟩ := X.specialBackS hx hy1 hown (mvT hZ w1) (mvT hZ w2) (mvT hZ w4) hy (backOfSH (W := W) hC hZ w4 w3 hf hl hEL H) hg hsize (Steps.refl _) hlen hstack hW hdg (fun _ _ => ⟨rfl, eT, hc, hs⟩)
  dsimp only [Pt.U, Pt.locs, Pt.cells, Pt.slots] at X2 hS2 hg2 l2 y2 z2 st2 hQ2 hC2
  subst l2 y2 z2 eT
  obtain ⟨X3, hS3, hZ3, hown3⟩ := rebS hS hk X2 hS2 hg2 hZ hown
  exact ⟨v, T2, Lc2, X3, hS3, hZ3, hown3, hC2, hQ2, fun _ k => st2.trans k⟩
theorem callVtH {C : String} (X : Stand p l e R (s.setVm vm0) m args below meth c T locs cells slots) (hx : p.tables.exec = Jvm.exec) (hZ : Z.Warmed39 (s.setVm vm0).vm) (hown : (s.setVm vm0).vm.findClass own = some m.cls)
    (w1 : (Jvm.Cond.methodLink own index y).before a0 Z = true) (w2 : (Jvm.Cond.declares y).before a0 Z = true) (w3 : (Jvm.Cond.selects C y y).before a0 Z = true) (w4 : (Jvm.Cond.instanceMethod y).before a0 Z = true) (w5 : (Jvm.Cond.initialized y.cls).before a0 Z = true) (w6 : (Jvm.Cond.code y bytes maxL ret).before a0 Z = true)
    (hy : y.cls ≠ "java/lang/invoke/MethodHandle" ∧ y.cls ≠ "java/lang/invoke/VarHandle")
    {a : Addr} (hC : ConH l Z EL y bytes maxL ret rm (.ref a :: argsL).toArray h Qc) (eT : T.heap = h) (EA : Exa Z h a C) (hS : s.Since vm0 k0) (hk : k0 ≤ h.size) (hEL : EW Z a0 EL) (H : CHv Z EL vm0 h) (hf : rm.frames + 1 ≤ R.frames) (hl : W + (maxL + 11) + rm.locals ≤ R.locals) (hc : cells + rm.cells ≤ R.cells) (hs : slots + rm.slots ≤ R.slots)
    (hg : g.method = m) (hsize : g.locals.size = c.maxLocals) (hlen : ∀ sig, parseMethodDescriptor y.desc = some sig → argsL.length = sig.parameters.length) (hstack : g.stack = argsL.reverse ++ .ref a :: rest) (hW : 2 * g.monitorRoom + (rest.map fun v => v.category).sum ≤ W) (hdg : decode c.code g.pc = .ok (.invokevirtual index, 3)) :
    ∃ (v : Option Value) (T' : State) (L : List Loc), Stand p l e R (s.setVm T'.vm) m args below meth c T' (locs ++ L) (cells + rm.cells) (slots + rm.slots) ∧ s.Since T'.vm T'.heap.size ∧ Z.Warmed39 (s.setVm T'.vm).vm ∧ (s.setVm T'.vm).vm.findClass own = some m.cls ∧ CHr Z EL vm0 h T'.vm T'.heap ∧ Qc v T'.heap L ∧
      ∀ target, Steps p.tables e below (T'.setTop { g with pc := g.pc + 3, stack := v.toList ++ rest }) target → Steps p.tables e below (T.setTop g) target := by
  obtain ⟨cq, kq, qa, qb, qc⟩ := isOf hZ eT EA
  obtain ⟨v, _, ⟨T2, L2, k2, n2⟩, -, X2, hS2, hg2, ⟨Lc2, hQ2, l2, y2, z2, hC2⟩, st2⟩ := X.virtualBackS hx hown (mvT hZ w1) (mvT hZ w2) (notFace_of_selects (args := #[]) (mvT hZ w3)) (mvT hZ w3) (mvT hZ w4) hy (backOfSH (W := W) hC hZ w6 w5 hf hl hEL H) qa qc hg hsize (Steps.refl _) hlen hstack hW hdg (fun _ _ => ⟨rfl, eT, hc, hs⟩)
  dsimp only [Pt.U, Pt.locs, Pt.cells, Pt.slots] at X2 hS2 hg2 l2 y2 z2 st2 hQ2 hC2
  subst l2 y2 z2 eT
  obtain ⟨X3, hS3, hZ3, hown3⟩ := rebS hS hk X2 hS2 hg2 hZ hown
  exact ⟨v, T2, Lc2, X3, hS3, hZ3, hown3, hC2, hQ2, fun _ k => st2.trans k⟩
end CallsH
end OwnWide
theorem w_0 : (Jvm.Cond.classLink "com/example/termspan/termspan/options/OptionOptionalPinLaw" (7 : Nat) "java/lang/String") ∈ tables_1 := List.mem_of_getElem? (i := 0) rfl
theorem w_1 : (Jvm.Cond.instantiable "java/lang/String" (4 : Nat)) ∈ tables_1 := List.mem_of_getElem? (i := 1) rfl
theorem w_2 : (Jvm.Cond.initialized "java/lang/String") ∈ tables_1 := List.mem_of_getElem? (i := 2) rfl
theorem w_3 : (Jvm.Cond.arrayClass Jvm.ClassFile.FieldType.char) ∈ tables_1 := List.mem_of_getElem? (i := 3) rfl
theorem w_4 : (Jvm.Cond.methodLink "com/example/termspan/termspan/options/OptionOptionalPinLaw" (9 : Nat) ({ cls := "java/lang/String", name := "<init>", desc := "([C)V" } : Jvm.MethodName)) ∈ tables_1 := List.mem_of_getElem? (i := 4) rfl
theorem w_5 : (Jvm.Cond.instanceMethod ({ cls := "java/lang/String", name := "<init>", desc := "([C)V" } : Jvm.MethodName)) ∈ tables_1 := List.mem_of_getElem? (i := 5) rfl
theorem w_6 : (Jvm.Cond.code ({ cls := "java/lang/String", name := "<init>", desc := "([C)V" } : Jvm.MethodName) jdk_42_method_3_code (2 : Nat) (Option.none : Option Jvm.ClassFile.FieldType)) ∈ tables_1 := List.mem_of_getElem? (i := 6) rfl
theorem w_7 : (Jvm.Cond.methodLink "java/lang/String" (27 : Nat) ({ cls := "java/lang/String", name := "<init>", desc := "([CIILjava/lang/Void;)V" } : Jvm.MethodName)) ∈ tables_1 := List.mem_of_getElem? (i := 7) rfl
theorem w_8 : (Jvm.Cond.instanceMethod ({ cls := "java/lang/String", name := "<init>", desc := "([CIILjava/lang/Void;)V" } : Jvm.MethodName)) ∈ tables_1 := List.mem_of_getElem? (i := 8) rfl
theorem w_10 : (Jvm.Cond.code ({ cls := "java/lang/String", name := "<init>", desc := "([CIILjava/lang/Void;)V" } : Jvm.MethodName) jdk_42_method_149_code (6 : Nat) (Option.none : Option Jvm.ClassFile.FieldType)) ∈ tables_1 := List.mem_of_getElem? (i := 10) rfl
theorem w_11 : (Jvm.Cond.methodLink "java/lang/String" (1 : Nat) ({ cls := "java/lang/Object", name := "<init>", desc := "()V" } : Jvm.MethodName)) ∈ tables_1 := List.mem_of_getElem? (i := 11) rfl
theorem w_12 : (Jvm.Cond.instanceMethod ({ cls := "java/lang/Object", name := "<init>", desc := "()V" } : Jvm.MethodName)) ∈ tables_1 := List.mem_of_getElem? (i := 12) rfl
theorem w_13 : (Jvm.Cond.code ({ cls := "java/lang/Object", name := "<init>", desc := "()V" } : Jvm.MethodName) object_method_1_code (1 : Nat) (Option.none : Option Jvm.ClassFile.FieldType)) ∈ tables_1 := List.mem_of_getElem? (i := 13) rfl
theorem w_14 : (Jvm.Cond.fieldLink "java/lang/String" (38 : Nat) "java/lang/String" "COMPACT_STRINGS" "Z") ∈ tables_1 := List.mem_of_getElem? (i := 14) rfl
theorem w_15 : (Jvm.Cond.methodLink "java/lang/String" (177 : Nat) ({ cls := "java/lang/StringUTF16", name := "compress", desc := "([CII)[B" } : Jvm.MethodName)) ∈ tables_1 := List.mem_of_getElem? (i := 15) rfl
theorem w_16 : (Jvm.Cond.static ({ cls := "java/lang/StringUTF16", name := "compress", desc := "([CII)[B" } : Jvm.MethodName)) ∈ tables_1 := List.mem_of_getElem? (i := 16) rfl
theorem w_17 : (Jvm.Cond.initialized "java/lang/StringUTF16") ∈ tables_1 := List.mem_of_getElem? (i := 17) rfl
theorem w_18 : (Jvm.Cond.code ({ cls := "java/lang/StringUTF16", name := "compress", desc := "([CII)[B" } : Jvm.MethodName) jdk_52_method_16_code (6 : Nat) (Option.some (Jvm.ClassFile.FieldType.array Jvm.ClassFile.FieldType.byte))) ∈ tables_1 := List.mem_of_getElem? (i := 18) rfl
theorem w_19 : (Jvm.Cond.arrayClass Jvm.ClassFile.FieldType.byte) ∈ tables_1 := List.mem_of_getElem? (i := 19) rfl
theorem w_20 : (Jvm.Cond.methodLink "java/lang/StringUTF16" (115 : Nat) ({ cls := "java/lang/StringUTF16", name := "compress", desc := "([CI[BII)I" } : Jvm.MethodName)) ∈ tables_1 := List.mem_of_getElem? (i := 20) rfl
theorem w_21 : (Jvm.Cond.static ({ cls := "java/lang/StringUTF16", name := "compress", desc := "([CI[BII)I" } : Jvm.MethodName)) ∈ tables_1 := List.mem_of_getElem? (i := 21) rfl
theorem w_22 : (Jvm.Cond.code ({ cls := "java/lang/StringUTF16", name := "compress", desc := "([CI[BII)I" } : Jvm.MethodName) jdk_52_method_21_code (7 : Nat) (Option.some Jvm.ClassFile.FieldType.int)) ∈ tables_1 := List.mem_of_getElem? (i := 22) rfl
theorem w_23 : (Jvm.Cond.methodLink "java/lang/String" (47 : Nat) ({ cls := "java/lang/StringUTF16", name := "coderFromArrayLen", desc := "([BI)B" } : Jvm.MethodName)) ∈ tables_1 := List.mem_of_getElem? (i := 23) rfl
theorem w_24 : (Jvm.Cond.static ({ cls := "java/lang/StringUTF16", name := "coderFromArrayLen", desc := "([BI)B" } : Jvm.MethodName)) ∈ tables_1 := List.mem_of_getElem? (i := 24) rfl
theorem w_25 : (Jvm.Cond.code ({ cls := "java/lang/StringUTF16", name := "coderFromArrayLen", desc := "([BI)B" } : Jvm.MethodName) jdk_52_method_15_code (2 : Nat) (Option.some Jvm.ClassFile.FieldType.byte)) ∈ tables_1 := List.mem_of_getElem? (i := 25) rfl
theorem w_26 : (Jvm.Cond.fieldLink "java/lang/String" (15 : Nat) "java/lang/String" "coder" "B") ∈ tables_1 := List.mem_of_getElem? (i := 26) rfl
theorem w_27 : (Jvm.Cond.laysFinal "java/lang/String" "java/lang/String" "coder" "B") ∈ tables_1 := List.mem_of_getElem? (i := 27) rfl
theorem w_28 : (Jvm.Cond.fieldLink "java/lang/String" (9 : Nat) "java/lang/String" "value" "[B") ∈ tables_1 := List.mem_of_getElem? (i := 28) rfl
theorem w_29 : (Jvm.Cond.laysFinal "java/lang/String" "java/lang/String" "value" "[B") ∈ tables_1 := List.mem_of_getElem? (i := 29) rfl
theorem w_30 : (Jvm.Cond.methodLink "com/example/termspan/termspan/options/OptionOptionalPinLaw" (14 : Nat) ({ cls := "com/example/termspan/termspan/options/Option", name := "optional", desc := "(Ljava/lang/String;Ljava/lang/String;Ljava/lang/String;)Lcom/example/termspan/termspan/options/Option;" } : Jvm.MethodName)) ∈ tables_1 := List.mem_of_getElem? (i := 30) rfl
theorem w_31 : (Jvm.Cond.static ({ cls := "com/example/termspan/termspan/options/Option", name := "optional", desc := "(Ljava/lang/String;Ljava/lang/String;Ljava/lang/String;)Lcom/example/termspan/termspan/options/Option;" } : Jvm.MethodName)) ∈ tables_1 := List.mem_of_getElem? (i := 31) rfl
theorem w_32 : (Jvm.Cond.initialized "com/example/termspan/termspan/options/Option") ∈ tables_1 := List.mem_of_getElem? (i := 32) rfl
theorem w_33 : (Jvm.Cond.code ({ cls := "com/example/termspan/termspan/options/Option", name := "optional", desc := "(Ljava/lang/String;Ljava/lang/String;Ljava/lang/String;)Lcom/example/termspan/termspan/options/Option;" } : Jvm.MethodName) prog_31_method_4_code (3 : Nat) (Option.some (Jvm.ClassFile.FieldType.object "com/example/termspan/termspan/options/Option"))) ∈ tables_1 := List.mem_of_getElem? (i := 33) rfl
theorem w_34 : (Jvm.Cond.classLink "com/example/termspan/termspan/options/Option" (8 : Nat) "com/example/termspan/termspan/options/Option") ∈ tables_1 := List.mem_of_getElem? (i := 34) rfl
theorem w_35 : (Jvm.Cond.instantiable "com/example/termspan/termspan/options/Option" (7 : Nat)) ∈ tables_1 := List.mem_of_getElem? (i := 35) rfl
theorem w_36 : (Jvm.Cond.methodLink "com/example/termspan/termspan/options/Option" (33 : Nat) ({ cls := "com/example/termspan/termspan/options/Option", name := "<init>", desc := "(Ljava/lang/String;Ljava/lang/String;Ljava/lang/String;ZZLjava/lang/String;Lcom/example/termspan/termspan/options/Option$Range;)V" } : Jvm.MethodName)) ∈ tables_1 := List.mem_of_getElem? (i := 36) rfl
theorem w_37 : (Jvm.Cond.instanceMethod ({ cls := "com/example/termspan/termspan/options/Option", name := "<init>", desc := "(Ljava/lang/String;Ljava/lang/String;Ljava/lang/String;ZZLjava/lang/String;Lcom/example/termspan/termspan/options/Option$Range;)V" } : Jvm.MethodName)) ∈ tables_1 := List.mem_of_getElem? (i := 37) rfl
theorem w_38 : (Jvm.Cond.code ({ cls := "com/example/termspan/termspan/options/Option", name := "<init>", desc := "(Ljava/lang/String;Ljava/lang/String;Ljava/lang/String;ZZLjava/lang/String;Lcom/example/termspan/termspan/options/Option$Range;)V" } : Jvm.MethodName) prog_31_method_1_code (8 : Nat) (Option.none : Option Jvm.ClassFile.FieldType)) ∈ tables_1 := List.mem_of_getElem? (i := 38) rfl
theorem w_39 : (Jvm.Cond.methodLink "com/example/termspan/termspan/options/Option" (1 : Nat) ({ cls := "java/lang/Record", name := "<init>", desc := "()V" } : Jvm.MethodName)) ∈ tables_1 := List.mem_of_getElem? (i := 39) rfl
theorem w_40 : (Jvm.Cond.instanceMethod ({ cls := "java/lang/Record", name := "<init>", desc := "()V" } : Jvm.MethodName)) ∈ tables_1 := List.mem_of_getElem? (i := 40) rfl
theorem w_42 : (Jvm.Cond.initialized "java/lang/Record") ∈ tables_1 := List.mem_of_getElem? (i := 42) rfl
theorem w_43 : (Jvm.Cond.code ({ cls := "java/lang/Record", name := "<init>", desc := "()V" } : Jvm.MethodName) jdk_30_method_1_code (1 : Nat) (Option.none : Option Jvm.ClassFile.FieldType)) ∈ tables_1 := List.mem_of_getElem? (i := 43) rfl
theorem w_44 : (Jvm.Cond.methodLink "java/lang/Record" (1 : Nat) ({ cls := "java/lang/Object", name := "<init>", desc := "()V" } : Jvm.MethodName)) ∈ tables_1 := List.mem_of_getElem? (i := 44) rfl
theorem w_45 : (Jvm.Cond.fieldLink "com/example/termspan/termspan/options/Option" (7 : Nat) "com/example/termspan/termspan/options/Option" "name" "Ljava/lang/String;") ∈ tables_1 := List.mem_of_getElem? (i := 45) rfl
theorem w_46 : (Jvm.Cond.laysFinal "com/example/termspan/termspan/options/Option" "com/example/termspan/termspan/options/Option" "name" "Ljava/lang/String;") ∈ tables_1 := List.mem_of_getElem? (i := 46) rfl
theorem w_47 : (Jvm.Cond.fieldLink "com/example/termspan/termspan/options/Option" (13 : Nat) "com/example/termspan/termspan/options/Option" "value" "Ljava/lang/String;") ∈ tables_1 := List.mem_of_getElem? (i := 47) rfl
theorem w_48 : (Jvm.Cond.laysFinal "com/example/termspan/termspan/options/Option" "com/example/termspan/termspan/options/Option" "value" "Ljava/lang/String;") ∈ tables_1 := List.mem_of_getElem? (i := 48) rfl
theorem w_49 : (Jvm.Cond.fieldLink "com/example/termspan/termspan/options/Option" (16 : Nat) "com/example/termspan/termspan/options/Option" "fallback" "Ljava/lang/String;") ∈ tables_1 := List.mem_of_getElem? (i := 49) rfl
theorem w_50 : (Jvm.Cond.laysFinal "com/example/termspan/termspan/options/Option" "com/example/termspan/termspan/options/Option" "fallback" "Ljava/lang/String;") ∈ tables_1 := List.mem_of_getElem? (i := 50) rfl
theorem w_51 : (Jvm.Cond.fieldLink "com/example/termspan/termspan/options/Option" (19 : Nat) "com/example/termspan/termspan/options/Option" "required" "Z") ∈ tables_1 := List.mem_of_getElem? (i := 51) rfl
theorem w_52 : (Jvm.Cond.laysFinal "com/example/termspan/termspan/options/Option" "com/example/termspan/termspan/options/Option" "required" "Z") ∈ tables_1 := List.mem_of_getElem? (i := 52) rfl
theorem w_53 : (Jvm.Cond.fieldLink "com/example/termspan/termspan/options/Option" (23 : Nat) "com/example/termspan/termspan/options/Option" "repeatable" "Z") ∈ tables_1 := List.mem_of_getElem? (i := 53) rfl
theorem w_54 : (Jvm.Cond.laysFinal "com/example/termspan/termspan/options/Option" "com/example/termspan/termspan/options/Option" "repeatable" "Z") ∈ tables_1 := List.mem_of_getElem? (i := 54) rfl
theorem w_55 : (Jvm.Cond.fieldLink "com/example/termspan/termspan/options/Option" (26 : Nat) "com/example/termspan/termspan/options/Option" "description" "Ljava/lang/String;") ∈ tables_1 := List.mem_of_getElem? (i := 55) rfl
theorem w_56 : (Jvm.Cond.laysFinal "com/example/termspan/termspan/options/Option" "com/example/termspan/termspan/options/Option" "description" "Ljava/lang/String;") ∈ tables_1 := List.mem_of_getElem? (i := 56) rfl
theorem w_57 : (Jvm.Cond.fieldLink "com/example/termspan/termspan/options/Option" (29 : Nat) "com/example/termspan/termspan/options/Option" "range" "Lcom/example/termspan/termspan/options/Option$Range;") ∈ tables_1 := List.mem_of_getElem? (i := 57) rfl
theorem w_58 : (Jvm.Cond.laysFinal "com/example/termspan/termspan/options/Option" "com/example/termspan/termspan/options/Option" "range" "Lcom/example/termspan/termspan/options/Option$Range;") ∈ tables_1 := List.mem_of_getElem? (i := 58) rfl
theorem w_59 : (Jvm.Cond.methodLink "com/example/termspan/termspan/options/OptionOptionalPinLaw" (20 : Nat) ({ cls := "com/example/termspan/termspan/options/Option", name := "name", desc := "()Ljava/lang/String;" } : Jvm.MethodName)) ∈ tables_1 := List.mem_of_getElem? (i := 59) rfl
theorem w_60 : (Jvm.Cond.declares ({ cls := "com/example/termspan/termspan/options/Option", name := "name", desc := "()Ljava/lang/String;" } : Jvm.MethodName)) ∈ tables_1 := List.mem_of_getElem? (i := 60) rfl
theorem w_61 : (Jvm.Cond.instanceMethod ({ cls := "com/example/termspan/termspan/options/Option", name := "name", desc := "()Ljava/lang/String;" } : Jvm.MethodName)) ∈ tables_1 := List.mem_of_getElem? (i := 61) rfl
theorem w_62 : (Jvm.Cond.selects "com/example/termspan/termspan/options/Option" ({ cls := "com/example/termspan/termspan/options/Option", name := "name", desc := "()Ljava/lang/String;" } : Jvm.MethodName) ({ cls := "com/example/termspan/termspan/options/Option", name := "name", desc := "()Ljava/lang/String;" } : Jvm.MethodName)) ∈ tables_1 := List.mem_of_getElem? (i := 62) rfl
theorem w_63 : (Jvm.Cond.code ({ cls := "com/example/termspan/termspan/options/Option", name := "name", desc := "()Ljava/lang/String;" } : Jvm.MethodName) prog_31_method_20_code (1 : Nat) (Option.some (Jvm.ClassFile.FieldType.object "java/lang/String"))) ∈ tables_1 := List.mem_of_getElem? (i := 63) rfl
theorem w_64 : (Jvm.Cond.methodLink "com/example/termspan/termspan/options/OptionOptionalPinLaw" (24 : Nat) ({ cls := "com/example/termspan/termspan/options/Option", name := "value", desc := "()Ljava/lang/String;" } : Jvm.MethodName)) ∈ tables_1 := List.mem_of_getElem? (i := 64) rfl
theorem w_65 : (Jvm.Cond.declares ({ cls := "com/example/termspan/termspan/options/Option", name := "value", desc := "()Ljava/lang/String;" } : Jvm.MethodName)) ∈ tables_1 := List.mem_of_getElem? (i := 65) rfl
theorem w_66 : (Jvm.Cond.instanceMethod ({ cls := "com/example/termspan/termspan/options/Option", name := "value", desc := "()Ljava/lang/String;" } : Jvm.MethodName)) ∈ tables_1 := List.mem_of_getElem? (i := 66) rfl
theorem w_67 : (Jvm.Cond.selects "com/example/termspan/termspan/options/Option" ({ cls := "com/example/termspan/termspan/options/Option", name := "value", desc := "()Ljava/lang/String;" } : Jvm.MethodName) ({ cls := "com/example/termspan/termspan/options/Option", name := "value", desc := "()Ljava/lang/String;" } : Jvm.MethodName)) ∈ tables_1 := List.mem_of_getElem? (i := 67) rfl
theorem w_68 : (Jvm.Cond.code ({ cls := "com/example/termspan/termspan/options/Option", name := "value", desc := "()Ljava/lang/String;" } : Jvm.MethodName) prog_31_method_21_code (1 : Nat) (Option.some (Jvm.ClassFile.FieldType.object "java/lang/String"))) ∈ tables_1 := List.mem_of_getElem? (i := 68) rfl
theorem w_69 : (Jvm.Cond.methodLink "com/example/termspan/termspan/options/OptionOptionalPinLaw" (27 : Nat) ({ cls := "com/example/termspan/termspan/options/Option", name := "fallback", desc := "()Ljava/lang/String;" } : Jvm.MethodName)) ∈ tables_1 := List.mem_of_getElem? (i := 69) rfl
theorem w_70 : (Jvm.Cond.declares ({ cls := "com/example/termspan/termspan/options/Option", name := "fallback", desc := "()Ljava/lang/String;" } : Jvm.MethodName)) ∈ tables_1 := List.mem_of_getElem? (i := 70) rfl
theorem w_71 : (Jvm.Cond.instanceMethod ({ cls := "com/example/termspan/termspan/options/Option", name := "fallback", desc := "()Ljava/lang/String;" } : Jvm.MethodName)) ∈ tables_1 := List.mem_of_getElem? (i := 71) rfl
theorem w_72 : (Jvm.Cond.selects "com/example/termspan/termspan/options/Option" ({ cls := "com/example/termspan/termspan/options/Option", name := "fallback", desc := "()Ljava/lang/String;" } : Jvm.MethodName) ({ cls := "com/example/termspan/termspan/options/Option", name := "fallback", desc := "()Ljava/lang/String;" } : Jvm.MethodName)) ∈ tables_1 := List.mem_of_getElem? (i := 72) rfl
theorem w_73 : (Jvm.Cond.code ({ cls := "com/example/termspan/termspan/options/Option", name := "fallback", desc := "()Ljava/lang/String;" } : Jvm.MethodName) prog_31_method_22_code (1 : Nat) (Option.some (Jvm.ClassFile.FieldType.object "java/lang/String"))) ∈ tables_1 := List.mem_of_getElem? (i := 73) rfl
theorem w_74 : (Jvm.Cond.methodLink "com/example/termspan/termspan/options/OptionOptionalPinLaw" (30 : Nat) ({ cls := "com/example/termspan/termspan/options/Option", name := "required", desc := "()Z" } : Jvm.MethodName)) ∈ tables_1 := List.mem_of_getElem? (i := 74) rfl
theorem w_75 : (Jvm.Cond.declares ({ cls := "com/example/termspan/termspan/options/Option", name := "required", desc := "()Z" } : Jvm.MethodName)) ∈ tables_1 := List.mem_of_getElem? (i := 75) rfl
theorem w_76 : (Jvm.Cond.instanceMethod ({ cls := "com/example/termspan/termspan/options/Option", name := "required", desc := "()Z" } : Jvm.MethodName)) ∈ tables_1 := List.mem_of_getElem? (i := 76) rfl
theorem w_77 : (Jvm.Cond.selects "com/example/termspan/termspan/options/Option" ({ cls := "com/example/termspan/termspan/options/Option", name := "required", desc := "()Z" } : Jvm.MethodName) ({ cls := "com/example/termspan/termspan/options/Option", name := "required", desc := "()Z" } : Jvm.MethodName)) ∈ tables_1 := List.mem_of_getElem? (i := 77) rfl
theorem w_78 : (Jvm.Cond.code ({ cls := "com/example/termspan/termspan/options/Option", name := "required", desc := "()Z" } : Jvm.MethodName) prog_31_method_23_code (1 : Nat) (Option.some Jvm.ClassFile.FieldType.boolean)) ∈ tables_1 := List.mem_of_getElem? (i := 78) rfl
theorem w_79 : (Jvm.Cond.methodLink "com/example/termspan/termspan/options/OptionOptionalPinLaw" (34 : Nat) ({ cls := "com/example/termspan/termspan/options/Option", name := "repeatable", desc := "()Z" } : Jvm.MethodName)) ∈ tables_1 := List.mem_of_getElem? (i := 79) rfl
theorem w_80 : (Jvm.Cond.declares ({ cls := "com/example/termspan/termspan/options/Option", name := "repeatable", desc := "()Z" } : Jvm.MethodName)) ∈ tables_1 := List.mem_of_getElem? (i := 80) rfl
theorem w_81 : (Jvm.Cond.instanceMethod ({ cls := "com/example/termspan/termspan/options/Option", name := "repeatable", desc := "()Z" } : Jvm.MethodName)) ∈ tables_1 := List.mem_of_getElem? (i := 81) rfl
theorem w_82 : (Jvm.Cond.selects "com/example/termspan/termspan/options/Option" ({ cls := "com/example/termspan/termspan/options/Option", name := "repeatable", desc := "()Z" } : Jvm.MethodName) ({ cls := "com/example/termspan/termspan/options/Option", name := "repeatable", desc := "()Z" } : Jvm.MethodName)) ∈ tables_1 := List.mem_of_getElem? (i := 82) rfl
theorem w_83 : (Jvm.Cond.code ({ cls := "com/example/termspan/termspan/options/Option", name := "repeatable", desc := "()Z" } : Jvm.MethodName) prog_31_method_24_code (1 : Nat) (Option.some Jvm.ClassFile.FieldType.boolean)) ∈ tables_1 := List.mem_of_getElem? (i := 83) rfl
theorem w_84 : (Jvm.Cond.methodLink "com/example/termspan/termspan/options/OptionOptionalPinLaw" (37 : Nat) ({ cls := "com/example/termspan/termspan/options/Option", name := "description", desc := "()Ljava/lang/String;" } : Jvm.MethodName)) ∈ tables_1 := List.mem_of_getElem? (i := 84) rfl
theorem w_85 : (Jvm.Cond.declares ({ cls := "com/example/termspan/termspan/options/Option", name := "description", desc := "()Ljava/lang/String;" } : Jvm.MethodName)) ∈ tables_1 := List.mem_of_getElem? (i := 85) rfl
theorem w_86 : (Jvm.Cond.instanceMethod ({ cls := "com/example/termspan/termspan/options/Option", name := "description", desc := "()Ljava/lang/String;" } : Jvm.MethodName)) ∈ tables_1 := List.mem_of_getElem? (i := 86) rfl
theorem w_87 : (Jvm.Cond.selects "com/example/termspan/termspan/options/Option" ({ cls := "com/example/termspan/termspan/options/Option", name := "description", desc := "()Ljava/lang/String;" } : Jvm.MethodName) ({ cls := "com/example/termspan/termspan/options/Option", name := "description", desc := "()Ljava/lang/String;" } : Jvm.MethodName)) ∈ tables_1 := List.mem_of_getElem? (i := 87) rfl
theorem w_88 : (Jvm.Cond.code ({ cls := "com/example/termspan/termspan/options/Option", name := "description", desc := "()Ljava/lang/String;" } : Jvm.MethodName) prog_31_method_25_code (1 : Nat) (Option.some (Jvm.ClassFile.FieldType.object "java/lang/String"))) ∈ tables_1 := List.mem_of_getElem? (i := 88) rfl
theorem w_89 : (Jvm.Cond.methodLink "com/example/termspan/termspan/options/OptionOptionalPinLaw" (40 : Nat) ({ cls := "com/example/termspan/termspan/options/Option", name := "range", desc := "()Lcom/example/termspan/termspan/options/Option$Range;" } : Jvm.MethodName)) ∈ tables_1 := List.mem_of_getElem? (i := 89) rfl
theorem w_90 : (Jvm.Cond.declares ({ cls := "com/example/termspan/termspan/options/Option", name := "range", desc := "()Lcom/example/termspan/termspan/options/Option$Range;" } : Jvm.MethodName)) ∈ tables_1 := List.mem_of_getElem? (i := 90) rfl
theorem w_91 : (Jvm.Cond.instanceMethod ({ cls := "com/example/termspan/termspan/options/Option", name := "range", desc := "()Lcom/example/termspan/termspan/options/Option$Range;" } : Jvm.MethodName)) ∈ tables_1 := List.mem_of_getElem? (i := 91) rfl
theorem w_92 : (Jvm.Cond.selects "com/example/termspan/termspan/options/Option" ({ cls := "com/example/termspan/termspan/options/Option", name := "range", desc := "()Lcom/example/termspan/termspan/options/Option$Range;" } : Jvm.MethodName) ({ cls := "com/example/termspan/termspan/options/Option", name := "range", desc := "()Lcom/example/termspan/termspan/options/Option$Range;" } : Jvm.MethodName)) ∈ tables_1 := List.mem_of_getElem? (i := 92) rfl
theorem w_93 : (Jvm.Cond.code ({ cls := "com/example/termspan/termspan/options/Option", name := "range", desc := "()Lcom/example/termspan/termspan/options/Option$Range;" } : Jvm.MethodName) prog_31_method_26_code (1 : Nat) (Option.some (Jvm.ClassFile.FieldType.object "com/example/termspan/termspan/options/Option$Range"))) ∈ tables_1 := List.mem_of_getElem? (i := 93) rfl
theorem w_94 : (Jvm.Cond.methodLink "com/example/termspan/termspan/options/OptionOptionalPinLaw" (44 : Nat) ({ cls := "com/example/termspan/termspan/options/Option", name := "isFlag", desc := "()Z" } : Jvm.MethodName)) ∈ tables_1 := List.mem_of_getElem? (i := 94) rfl
theorem w_95 : (Jvm.Cond.declares ({ cls := "com/example/termspan/termspan/options/Option", name := "isFlag", desc := "()Z" } : Jvm.MethodName)) ∈ tables_1 := List.mem_of_getElem? (i := 95) rfl
theorem w_96 : (Jvm.Cond.instanceMethod ({ cls := "com/example/termspan/termspan/options/Option", name := "isFlag", desc := "()Z" } : Jvm.MethodName)) ∈ tables_1 := List.mem_of_getElem? (i := 96) rfl
theorem w_97 : (Jvm.Cond.selects "com/example/termspan/termspan/options/Option" ({ cls := "com/example/termspan/termspan/options/Option", name := "isFlag", desc := "()Z" } : Jvm.MethodName) ({ cls := "com/example/termspan/termspan/options/Option", name := "isFlag", desc := "()Z" } : Jvm.MethodName)) ∈ tables_1 := List.mem_of_getElem? (i := 97) rfl
theorem w_98 : (Jvm.Cond.code ({ cls := "com/example/termspan/termspan/options/Option", name := "isFlag", desc := "()Z" } : Jvm.MethodName) prog_31_method_12_code (1 : Nat) (Option.some Jvm.ClassFile.FieldType.boolean)) ∈ tables_1 := List.mem_of_getElem? (i := 98) rfl
theorem w_99 : (Jvm.Cond.stringLink "com/example/termspan/termspan/options/OptionOptionalPinLaw" (12 : Nat) "") ∈ tables_1 := List.mem_of_getElem? (i := 99) rfl
theorem pn_java_lang_StringUTF16 : plainName "java/lang/StringUTF16" = true := by first | (simp [plainName, overriddenIn]; done) | decide +kernel
theorem d5_0 : decode jdk_52_method_21_code 0 = .ok (.iconst 0, 1) := by decide +kernel
theorem d5_1 : decode jdk_52_method_21_code 1 = .ok (.istore 5, 2) := by decide +kernel
theorem d5_3 : decode jdk_52_method_21_code 3 = .ok (.iload 5, 2) := by decide +kernel
theorem d5_5 : decode jdk_52_method_21_code 5 = .ok (.iload 4, 2) := by decide +kernel
theorem d5_7 : decode jdk_52_method_21_code 7 = .ok (.if_icmp .ge 37, 3) := by decide +kernel
theorem d5_10 : decode jdk_52_method_21_code 10 = .ok (.aload_n 0, 1) := by decide +kernel
theorem d5_11 : decode jdk_52_method_21_code 11 = .ok (.iload_n 1, 1) := by decide +kernel
theorem d5_12 : decode jdk_52_method_21_code 12 = .ok (.caload, 1) := by decide +kernel
theorem d5_13 : decode jdk_52_method_21_code 13 = .ok (.istore 6, 2) := by decide +kernel
theorem d5_15 : decode jdk_52_method_21_code 15 = .ok (.iload 6, 2) := by decide +kernel
theorem d5_17 : decode jdk_52_method_21_code 17 = .ok (.sipush 255, 3) := by decide +kernel
theorem d5_20 : decode jdk_52_method_21_code 20 = .ok (.if_icmp .le 6, 3) := by decide +kernel
theorem d5_26 : decode jdk_52_method_21_code 26 = .ok (.aload_n 2, 1) := by decide +kernel
theorem d5_27 : decode jdk_52_method_21_code 27 = .ok (.iload_n 3, 1) := by decide +kernel
theorem d5_28 : decode jdk_52_method_21_code 28 = .ok (.iload 6, 2) := by decide +kernel
theorem d5_30 : decode jdk_52_method_21_code 30 = .ok (.i2b, 1) := by decide +kernel
theorem d5_31 : decode jdk_52_method_21_code 31 = .ok (.bastore, 1) := by decide +kernel
theorem d5_32 : decode jdk_52_method_21_code 32 = .ok (.iinc 1 1, 3) := by decide +kernel
theorem d5_35 : decode jdk_52_method_21_code 35 = .ok (.iinc 3 1, 3) := by decide +kernel
theorem d5_38 : decode jdk_52_method_21_code 38 = .ok (.iinc 5 1, 3) := by decide +kernel
theorem d5_41 : decode jdk_52_method_21_code 41 = .ok (.goto (-38), 3) := by decide +kernel
theorem d5_44 : decode jdk_52_method_21_code 44 = .ok (.iload 4, 2) := by decide +kernel
theorem d5_46 : decode jdk_52_method_21_code 46 = .ok (.ireturn, 1) := by decide +kernel
theorem d4_0 : decode jdk_52_method_16_code 0 = .ok (.iload_n 2, 1) := by decide +kernel
theorem d4_1 : decode jdk_52_method_16_code 1 = .ok (.newarray .byte, 2) := by decide +kernel
theorem d4_3 : decode jdk_52_method_16_code 3 = .ok (.astore_n 3, 1) := by decide +kernel
theorem d4_4 : decode jdk_52_method_16_code 4 = .ok (.aload_n 0, 1) := by decide +kernel
theorem d4_5 : decode jdk_52_method_16_code 5 = .ok (.iload_n 1, 1) := by decide +kernel
theorem d4_6 : decode jdk_52_method_16_code 6 = .ok (.aload_n 3, 1) := by decide +kernel
theorem d4_7 : decode jdk_52_method_16_code 7 = .ok (.iconst 0, 1) := by decide +kernel
theorem d4_8 : decode jdk_52_method_16_code 8 = .ok (.iload_n 2, 1) := by decide +kernel
theorem d4_9 : decode jdk_52_method_16_code 9 = .ok (.invokestatic 115, 3) := by decide +kernel
theorem pd_oACIABIIcI : parseMethodDescriptor "([CI[BII)I" = some ⟨[(.array .char), .int, (.array .byte), .int, .int], some .int⟩ := by decide +kernel
theorem d4_12 : decode jdk_52_method_16_code 12 = .ok (.istore 4, 2) := by decide +kernel
theorem d4_14 : decode jdk_52_method_16_code 14 = .ok (.iload 4, 2) := by decide +kernel
theorem d4_16 : decode jdk_52_method_16_code 16 = .ok (.iload_n 2, 1) := by decide +kernel
theorem d4_17 : decode jdk_52_method_16_code 17 = .ok (.if_icmp .eq 40, 3) := by decide +kernel
theorem d4_57 : decode jdk_52_method_16_code 57 = .ok (.aload_n 3, 1) := by decide +kernel
theorem d4_58 : decode jdk_52_method_16_code 58 = .ok (.areturn, 1) := by decide +kernel
theorem d6_0 : decode jdk_52_method_15_code 0 = .ok (.iload_n 1, 1) := by decide +kernel
theorem d6_1 : decode jdk_52_method_15_code 1 = .ok (.aload_n 0, 1) := by decide +kernel
theorem d6_2 : decode jdk_52_method_15_code 2 = .ok (.arraylength, 1) := by decide +kernel
theorem d6_3 : decode jdk_52_method_15_code 3 = .ok (.isub, 1) := by decide +kernel
theorem d6_4 : decode jdk_52_method_15_code 4 = .ok (.bipush 31, 2) := by decide +kernel
theorem d6_6 : decode jdk_52_method_15_code 6 = .ok (.iushr, 1) := by decide +kernel
theorem d6_7 : decode jdk_52_method_15_code 7 = .ok (.i2b, 1) := by decide +kernel
theorem d6_8 : decode jdk_52_method_15_code 8 = .ok (.ireturn, 1) := by decide +kernel
theorem pn_java_lang_String : plainName "java/lang/String" = true := by first | (simp [plainName, overriddenIn]; done) | decide +kernel
theorem d2_0 : decode jdk_42_method_149_code 0 = .ok (.aload_n 0, 1) := by decide +kernel
theorem d2_1 : decode jdk_42_method_149_code 1 = .ok (.invokespecial 1, 3) := by decide +kernel
theorem d2_4 : decode jdk_42_method_149_code 4 = .ok (.iload_n 3, 1) := by decide +kernel
theorem d2_5 : decode jdk_42_method_149_code 5 = .ok (.ifCond .ne 22, 3) := by decide +kernel
theorem d2_27 : decode jdk_42_method_149_code 27 = .ok (.getstatic 38, 3) := by decide +kernel
theorem d2_30 : decode jdk_42_method_149_code 30 = .ok (.ifCond .eq 28, 3) := by decide +kernel
theorem d2_33 : decode jdk_42_method_149_code 33 = .ok (.aload_n 1, 1) := by decide +kernel
theorem d2_34 : decode jdk_42_method_149_code 34 = .ok (.iload_n 2, 1) := by decide +kernel
theorem d2_35 : decode jdk_42_method_149_code 35 = .ok (.iload_n 3, 1) := by decide +kernel
theorem d2_36 : decode jdk_42_method_149_code 36 = .ok (.invokestatic 177, 3) := by decide +kernel
theorem pd_oACIIcAB : parseMethodDescriptor "([CII)[B" = some ⟨[(.array .char), .int, .int], some (.array .byte)⟩ := by decide +kernel
theorem d2_39 : decode jdk_42_method_149_code 39 = .ok (.astore 5, 2) := by decide +kernel
theorem d2_41 : decode jdk_42_method_149_code 41 = .ok (.aload_n 0, 1) := by decide +kernel
theorem d2_42 : decode jdk_42_method_149_code 42 = .ok (.aload 5, 2) := by decide +kernel
theorem d2_44 : decode jdk_42_method_149_code 44 = .ok (.iload_n 3, 1) := by decide +kernel
theorem d2_45 : decode jdk_42_method_149_code 45 = .ok (.invokestatic 47, 3) := by decide +kernel
theorem pd_oABIcB : parseMethodDescriptor "([BI)B" = some ⟨[(.array .byte), .int], some .byte⟩ := by decide +kernel
theorem d2_48 : decode jdk_42_method_149_code 48 = .ok (.putfield 15, 3) := by decide +kernel
theorem d2_51 : decode jdk_42_method_149_code 51 = .ok (.aload_n 0, 1) := by decide +kernel
theorem d2_52 : decode jdk_42_method_149_code 52 = .ok (.aload 5, 2) := by decide +kernel
theorem d2_54 : decode jdk_42_method_149_code 54 = .ok (.putfield 9, 3) := by decide +kernel
theorem d2_57 : decode jdk_42_method_149_code 57 = .ok (.return_, 1) := by decide +kernel
theorem d1_0 : decode jdk_42_method_3_code 0 = .ok (.aload_n 0, 1) := by decide +kernel
theorem d1_1 : decode jdk_42_method_3_code 1 = .ok (.aload_n 1, 1) := by decide +kernel
theorem d1_2 : decode jdk_42_method_3_code 2 = .ok (.iconst 0, 1) := by decide +kernel
theorem d1_3 : decode jdk_42_method_3_code 3 = .ok (.aload_n 1, 1) := by decide +kernel
theorem d1_4 : decode jdk_42_method_3_code 4 = .ok (.arraylength, 1) := by decide +kernel
theorem d1_5 : decode jdk_42_method_3_code 5 = .ok (.aconst_null, 1) := by decide +kernel
theorem d1_6 : decode jdk_42_method_3_code 6 = .ok (.invokespecial 27, 3) := by decide +kernel
theorem pd_oACIILjava_lang_Void_cV : parseMethodDescriptor "([CIILjava/lang/Void;)V" = some ⟨[(.array .char), .int, .int, (.object "java/lang/Void")], none⟩ := by decide +kernel
theorem d1_9 : decode jdk_42_method_3_code 9 = .ok (.return_, 1) := by decide +kernel
theorem pn_java_lang_Record : plainName "java/lang/Record" = true := by first | (simp [plainName, overriddenIn]; done) | decide +kernel
theorem d9_0 : decode jdk_30_method_1_code 0 = .ok (.aload_n 0, 1) := by decide +kernel
theorem d9_1 : decode jdk_30_method_1_code 1 = .ok (.invokespecial 1, 3) := by decide +kernel
theorem d9_4 : decode jdk_30_method_1_code 4 = .ok (.return_, 1) := by decide +kernel
theorem pn_com_example_termspan_termspan_options_Option : plainName "com/example/termspan/termspan/options/Option" = true := by first | (simp [plainName, overriddenIn]; done) | decide +kernel
theorem d8_0 : decode prog_31_method_1_code 0 = .ok (.aload_n 0, 1) := by decide +kernel
theorem d8_1 : decode prog_31_method_1_code 1 = .ok (.invokespecial 1, 3) := by decide +kernel
theorem pd_ocV : parseMethodDescriptor "()V" = some ⟨[], none⟩ := by decide +kernel
theorem d8_4 : decode prog_31_method_1_code 4 = .ok (.aload_n 0, 1) := by decide +kernel
theorem d8_5 : decode prog_31_method_1_code 5 = .ok (.aload_n 1, 1) := by decide +kernel
theorem d8_6 : decode prog_31_method_1_code 6 = .ok (.putfield 7, 3) := by decide +kernel
theorem d8_9 : decode prog_31_method_1_code 9 = .ok (.aload_n 0, 1) := by decide +kernel
theorem d8_10 : decode prog_31_method_1_code 10 = .ok (.aload_n 2, 1) := by decide +kernel
theorem d8_11 : decode prog_31_method_1_code 11 = .ok (.putfield 13, 3) := by decide +kernel
theorem d8_14 : decode prog_31_method_1_code 14 = .ok (.aload_n 0, 1) := by decide +kernel
theorem d8_15 : decode prog_31_method_1_code 15 = .ok (.aload_n 3, 1) := by decide +kernel
theorem d8_16 : decode prog_31_method_1_code 16 = .ok (.putfield 16, 3) := by decide +kernel
theorem d8_19 : decode prog_31_method_1_code 19 = .ok (.aload_n 0, 1) := by decide +kernel
theorem d8_20 : decode prog_31_method_1_code 20 = .ok (.iload 4, 2) := by decide +kernel
theorem d8_22 : decode prog_31_method_1_code 22 = .ok (.putfield 19, 3) := by decide +kernel
theorem d8_25 : decode prog_31_method_1_code 25 = .ok (.aload_n 0, 1) := by decide +kernel
theorem d8_26 : decode prog_31_method_1_code 26 = .ok (.iload 5, 2) := by decide +kernel
theorem d8_28 : decode prog_31_method_1_code 28 = .ok (.putfield 23, 3) := by decide +kernel
theorem d8_31 : decode prog_31_method_1_code 31 = .ok (.aload_n 0, 1) := by decide +kernel
theorem d8_32 : decode prog_31_method_1_code 32 = .ok (.aload 6, 2) := by decide +kernel
theorem d8_34 : decode prog_31_method_1_code 34 = .ok (.putfield 26, 3) := by decide +kernel
theorem d8_37 : decode prog_31_method_1_code 37 = .ok (.aload_n 0, 1) := by decide +kernel
theorem d8_38 : decode prog_31_method_1_code 38 = .ok (.aload 7, 2) := by decide +kernel
theorem d8_40 : decode prog_31_method_1_code 40 = .ok (.putfield 29, 3) := by decide +kernel
theorem d8_43 : decode prog_31_method_1_code 43 = .ok (.return_, 1) := by decide +kernel
theorem d7_0 : decode prog_31_method_4_code 0 = .ok (.new 8, 3) := by decide +kernel
theorem d7_3 : decode prog_31_method_4_code 3 = .ok (.dup, 1) := by decide +kernel
theorem d7_4 : decode prog_31_method_4_code 4 = .ok (.aload_n 0, 1) := by decide +kernel
theorem d7_5 : decode prog_31_method_4_code 5 = .ok (.aload_n 1, 1) := by decide +kernel
theorem d7_6 : decode prog_31_method_4_code 6 = .ok (.aconst_null, 1) := by decide +kernel
theorem d7_7 : decode prog_31_method_4_code 7 = .ok (.iconst 0, 1) := by decide +kernel
theorem d7_8 : decode prog_31_method_4_code 8 = .ok (.iconst 0, 1) := by decide +kernel
theorem d7_9 : decode prog_31_method_4_code 9 = .ok (.aload_n 2, 1) := by decide +kernel
theorem d7_10 : decode prog_31_method_4_code 10 = .ok (.aconst_null, 1) := by decide +kernel
theorem d7_11 : decode prog_31_method_4_code 11 = .ok (.invokespecial 33, 3) := by decide +kernel
theorem pd_oLjava_lang_String_Ljava_lang_String_Ljava_lang_String_ZZLjava_lang_String_Lcom_example_termspan_termspan_options_OptionxRange_cV : parseMethodDescriptor "(Ljava/lang/String;Ljava/lang/String;Ljava/lang/String;ZZLjava/lang/String;Lcom/example/termspan/termspan/options/Option$Range;)V" = some ⟨[(.object "java/lang/String"), (.object "java/lang/String"), (.object "java/lang/String"), .boolean, .boolean, (.object "java/lang/String"), (.object "com/example/termspan/termspan/options/Option$Range")], none⟩ := by decide +kernel
theorem d7_14 : decode prog_31_method_4_code 14 = .ok (.areturn, 1) := by decide +kernel
theorem d10_0 : decode prog_31_method_20_code 0 = .ok (.aload_n 0, 1) := by decide +kernel
theorem d10_1 : decode prog_31_method_20_code 1 = .ok (.getfield 7, 3) := by decide +kernel
theorem d10_4 : decode prog_31_method_20_code 4 = .ok (.areturn, 1) := by decide +kernel
theorem d11_0 : decode prog_31_method_21_code 0 = .ok (.aload_n 0, 1) := by decide +kernel
theorem d11_1 : decode prog_31_method_21_code 1 = .ok (.getfield 13, 3) := by decide +kernel
theorem d11_4 : decode prog_31_method_21_code 4 = .ok (.areturn, 1) := by decide +kernel
theorem d12_0 : decode prog_31_method_22_code 0 = .ok (.aload_n 0, 1) := by decide +kernel
theorem d12_1 : decode prog_31_method_22_code 1 = .ok (.getfield 16, 3) := by decide +kernel
theorem d12_4 : decode prog_31_method_22_code 4 = .ok (.areturn, 1) := by decide +kernel
theorem d15_0 : decode prog_31_method_25_code 0 = .ok (.aload_n 0, 1) := by decide +kernel
theorem d15_1 : decode prog_31_method_25_code 1 = .ok (.getfield 26, 3) := by decide +kernel
theorem d15_4 : decode prog_31_method_25_code 4 = .ok (.areturn, 1) := by decide +kernel
theorem d16_0 : decode prog_31_method_26_code 0 = .ok (.aload_n 0, 1) := by decide +kernel
theorem d16_1 : decode prog_31_method_26_code 1 = .ok (.getfield 29, 3) := by decide +kernel
theorem d16_4 : decode prog_31_method_26_code 4 = .ok (.areturn, 1) := by decide +kernel
theorem d13_0 : decode prog_31_method_23_code 0 = .ok (.aload_n 0, 1) := by decide +kernel
theorem d13_1 : decode prog_31_method_23_code 1 = .ok (.getfield 19, 3) := by decide +kernel
theorem d13_4 : decode prog_31_method_23_code 4 = .ok (.ireturn, 1) := by decide +kernel
theorem d14_0 : decode prog_31_method_24_code 0 = .ok (.aload_n 0, 1) := by decide +kernel
theorem d14_1 : decode prog_31_method_24_code 1 = .ok (.getfield 23, 3) := by decide +kernel
theorem d14_4 : decode prog_31_method_24_code 4 = .ok (.ireturn, 1) := by decide +kernel
theorem d17_0 : decode prog_31_method_12_code 0 = .ok (.aload_n 0, 1) := by decide +kernel
theorem d17_1 : decode prog_31_method_12_code 1 = .ok (.getfield 13, 3) := by decide +kernel
theorem d17_4 : decode prog_31_method_12_code 4 = .ok (.ifnonnull 7, 3) := by decide +kernel
theorem d17_7 : decode prog_31_method_12_code 7 = .ok (.iconst 1, 1) := by decide +kernel
theorem d17_8 : decode prog_31_method_12_code 8 = .ok (.goto 4, 3) := by decide +kernel
theorem d17_12 : decode prog_31_method_12_code 12 = .ok (.ireturn, 1) := by decide +kernel
theorem d17_11 : decode prog_31_method_12_code 11 = .ok (.iconst 0, 1) := by decide +kernel
theorem pn_com_example_termspan_termspan_options_OptionOptionalPinLaw : plainName "com/example/termspan/termspan/options/OptionOptionalPinLaw" = true := by first | (simp [plainName, overriddenIn]; done) | decide +kernel
theorem pd_oACcV : parseMethodDescriptor "([C)V" = some ⟨[(.array .char)], none⟩ := by decide +kernel
theorem pd_oLjava_lang_String_Ljava_lang_String_Ljava_lang_String_cLcom_example_termspan_termspan_options_Option_ : parseMethodDescriptor "(Ljava/lang/String;Ljava/lang/String;Ljava/lang/String;)Lcom/example/termspan/termspan/options/Option;" = some ⟨[(.object "java/lang/String"), (.object "java/lang/String"), (.object "java/lang/String")], some (.object "com/example/termspan/termspan/options/Option")⟩ := by decide +kernel
theorem pd_ocLjava_lang_String_ : parseMethodDescriptor "()Ljava/lang/String;" = some ⟨[], some (.object "java/lang/String")⟩ := by decide +kernel
theorem pd_ocZ : parseMethodDescriptor "()Z" = some ⟨[], some .boolean⟩ := by decide +kernel
theorem pd_ocLcom_example_termspan_termspan_options_OptionxRange_ : parseMethodDescriptor "()Lcom/example/termspan/termspan/options/Option$Range;" = some ⟨[], some (.object "com/example/termspan/termspan/options/Option$Range")⟩ := by decide +kernel
abbrev EL : List (String × Nat) := []
theorem strW {Z : State} {a0 : Array Value} (hw : ∀ d ∈ tables_1, d.before a0 Z = true) : ∀ a ∈ Bundle.stringAtoms, a.before a0 Z = true := fun d hd => hw d ((by decide +kernel : ∀ d ∈ Bundle.stringAtoms, d ∈ tables_1) d hd)
theorem elW {Z : State} {a0 : Array Value} (hw : ∀ d ∈ tables_1, d.before a0 Z = true) : EW Z a0 EL := EW.nil
theorem and255 (x : Int32) : ¬ (255 : Int32) < ((Int32.toUInt32 (x &&& (255 : Int32))).toUInt16.toUInt32.toInt32) := by
  have h1 := c_mask x 255 8 (by decide) (by decide)
  have h2 := c_i2c (x &&& 255)
  have h3 : (255 : Int32).toInt = 255 := rfl
  rw [Int32.lt_iff_toInt_lt, h3]
  omega
set_option maxRecDepth 65536 in
set_option maxHeartbeats 40000000 in
theorem rmCmpB2 (l : Launch) (Z : State) (a0 : Array Value) (hw : ∀ d ∈ tables_1, d.before a0 Z = true) (n0 : Nat) (h0 : Heap) (O : Old Z n0 h0) (b d : Addr) (kb kd : ClassId) (x1 x2 : Int32) (VB : Arv Z h0 b kb .char (2 : Int32) [(.int x1), (.int x2)] (.int (0 : Int32))) (VD : Arv Z h0 d kd .byte (2 : Int32) [(.int (0 : Int32)), (.int (0 : Int32))] (.int (0 : Int32))) (hp1 : ¬ (255 : Int32) < x1) (hp2 : ¬ (255 : Int32) < x2) (nd : n0 ≤ d) (nbd : b ≠ d) :
    ConW FrameEnd l Z [] (⟨"java/lang/StringUTF16", "compress", "([CI[BII)I"⟩ : MethodName) jdk_52_method_21_code 7 (some .int) ({ frames := 0, cells := 0, slots := 0, locals := 0 } : Room) #[(.ref b), (.int (0 : Int32)), (.ref d), (.int (0 : Int32)), (.int (2 : Int32))] h0 (fun v h L => v = some (.int (2 : Int32)) ∧ Fr n0 L ∧ Keep h0 h [d] ∧ Arv Z h d kd .byte (2 : Int32) [(.int ((Int32.toInt8 x1).toInt32)), (.int ((Int32.toInt8 x2).toInt32))] (.int (0 : Int32))) := by
  refine conOf (plainFor_of_name pn_java_lang_StringUTF16) ?_
  intro p e s m below mth cc s₁ X0 hx hby hml hown hnm hret hlk hZ e0
  have N0 := Fr.nil n0
  have K0 := Keep.refl h0 ([d] : List Addr)
  refine Fin.came (castTop (t := _) (by first | (simp [entryFrame, mkF, argsToLocals, Value.category]; done) | rfl) (Steps.refl _) : Steps p.tables e below (s₁.setTop (entryFrame m #[(.ref b), (.int (0 : Int32)), (.ref d), (.int (0 : Int32)), (.int (2 : Int32))] 7)) (s₁.setTop (mkF m 0 #[.val (.ref b), .val (.int (0 : Int32)), .val (.ref d), .val (.int (0 : Int32)), .val (.int (2 : Int32)), .unset, .unset] []))) ?_
  show Fin _ p e below s _ _ _ s₁ (mkF m 0 #[.val (.ref b), .val (.int (0 : Int32)), .val (.ref d), .val (.int (0 : Int32)), .val (.int (2 : Int32)), .unset, .unset] [])
  refine Fin.go (fun _ k => XS.iconst X0.here hx rfl (hb hby d5_0) k) ?_
  show Fin _ p e below s _ _ _ s₁ (mkF m 1 #[.val (.ref b), .val (.int (0 : Int32)), .val (.ref d), .val (.int (0 : Int32)), .val (.int (2 : Int32)), .unset, .unset] [(.int (0 : Int32))])
  refine Fin.go (fun _ k => XS.istore X0.here hx rfl (hb hby d5_1) rfl (l' := #[.val (.ref b), .val (.int (0 : Int32)), .val (.ref d), .val (.int (0 : Int32)), .val (.int (2 : Int32)), .val (.int (0 : Int32)), .unset]) rfl k) ?_
  show Fin _ p e below s _ _ _ s₁ (mkF m 3 #[.val (.ref b), .val (.int (0 : Int32)), .val (.ref d), .val (.int (0 : Int32)), .val (.int (2 : Int32)), .val (.int (0 : Int32)), .unset] [])
  refine Fin.go (fun _ k => XS.iload X0.here hx rfl (hb hby d5_3) rfl k) ?_
  show Fin _ p e below s _ _ _ s₁ (mkF m 5 #[.val (.ref b), .val (.int (0 : Int32)), .val (.ref d), .val (.int (0 : Int32)), .val (.int (2 : Int32)), .val (.int (0 : Int32)), .unset] [(.int (0 : Int32))])
  refine Fin.go (fun _ k => XS.iload X0.here hx rfl (hb hby d5_5) rfl k) ?_
  show Fin _ p e below s _ _ _ s₁ (mkF m 7 #[.val (.ref b), .val (.int (0 : Int32)), .val (.ref d), .val (.int (0 : Int32)), .val (.int (2 : Int32)), .val (.int (0 : Int32)), .unset] [(.int (2 : Int32)), (.int (0 : Int32))])
  refine Fin.go (fun _ k => XS.icmpNo X0.here hx rfl (hb hby d5_7) rfl (XT.ii_ge_f (by decide)) k) ?_
  show Fin _ p e below s _ _ _ s₁ (mkF m 10 #[.val (.ref b), .val (.int (0 : Int32)), .val (.ref d), .val (.int (0 : Int32)), .val (.int (2 : Int32)), .val (.int (0 : Int32)), .unset] [])
  refine Fin.go (fun _ k => XS.aloadN X0.here hx rfl (hb hby d5_10) rfl rfl k) ?_
  show Fin _ p e below s _ _ _ s₁ (mkF m 11 #[.val (.ref b), .val (.int (0 : Int32)), .val (.ref d), .val (.int (0 : Int32)), .val (.int (2 : Int32)), .val (.int (0 : Int32)), .unset] [(.ref b)])
  refine Fin.go (fun _ k => XS.iloadN X0.here hx rfl (hb hby d5_11) rfl k) ?_
  show Fin _ p e below s _ _ _ s₁ (mkF m 12 #[.val (.ref b), .val (.int (0 : Int32)), .val (.ref d), .val (.int (0 : Int32)), .val (.int (2 : Int32)), .val (.int (0 : Int32)), .unset] [(.int (0 : Int32)), (.ref b)])
  obtain ⟨c1, B1, q1, S1, M1, H1, G1⟩ := id VB
  have i1 := inb_of S1 ⟨(by decide : ¬ ((0 : Int32) < (0 : Int32))), (by decide : (0 : Int32) < (2 : Int32))⟩
  refine Fin.go (fun _ k => X0.caload hx (j := (0 : Int32)) (v := (.int x1)) (by rw [e0]; exact B1.1) (State.isArrayOf_alike hZ.alike B1.2.1) B1.2.2 i1 (Has.at H1 i1 rfl) (g := (mkF m 12 #[.val (.ref b), .val (.int (0 : Int32)), .val (.ref d), .val (.int (0 : Int32)), .val (.int (2 : Int32)), .val (.int (0 : Int32)), .unset] [(.int (0 : Int32)), (.ref b)])) rfl rfl (hb hby d5_12) _ k) ?_
  show Fin _ p e below s _ _ _ s₁ (mkF m 13 #[.val (.ref b), .val (.int (0 : Int32)), .val (.ref d), .val (.int (0 : Int32)), .val (.int (2 : Int32)), .val (.int (0 : Int32)), .unset] [(.int x1)])
  refine Fin.go (fun _ k => XS.istore X0.here hx rfl (hb hby d5_13) rfl (l' := #[.val (.ref b), .val (.int (0 : Int32)), .val (.ref d), .val (.int (0 : Int32)), .val (.int (2 : Int32)), .val (.int (0 : Int32)), .val (.int x1)]) rfl k) ?_
  show Fin _ p e below s _ _ _ s₁ (mkF m 15 #[.val (.ref b), .val (.int (0 : Int32)), .val (.ref d), .val (.int (0 : Int32)), .val (.int (2 : Int32)), .val (.int (0 : Int32)), .val (.int x1)] [])
  refine Fin.go (fun _ k => XS.iload X0.here hx rfl (hb hby d5_15) rfl k) ?_
  show Fin _ p e below s _ _ _ s₁ (mkF m 17 #[.val (.ref b), .val (.int (0 : Int32)), .val (.ref d), .val (.int (0 : Int32)), .val (.int (2 : Int32)), .val (.int (0 : Int32)), .val (.int x1)] [(.int x1)])
  refine Fin.go (fun _ k => XS.sipush X0.here hx rfl (hb hby d5_17) k) ?_
  show Fin _ p e below s _ _ _ s₁ (mkF m 20 #[.val (.ref b), .val (.int (0 : Int32)), .val (.ref d), .val (.int (0 : Int32)), .val (.int (2 : Int32)), .val (.int (0 : Int32)), .val (.int x1)] [(.int (255 : Int32)), (.int x1)])
  refine Fin.go (fun _ k => XS.icmpYes X0.here hx rfl (pc0 := 20) (pc' := 26) rfl (hb hby d5_20) rfl (XT.ii_le_t hp1) (by decide) (by decide) k) ?_
  show Fin _ p e below s _ _ _ s₁ (mkF m 26 #[.val (.ref b), .val (.int (0 : Int32)), .val (.ref d), .val (.int (0 : Int32)), .val (.int (2 : Int32)), .val (.int (0 : Int32)), .val (.int x1)] [])
  refine Fin.go (fun _ k => XS.aloadN X0.here hx rfl (hb hby d5_26) rfl rfl k) ?_
  show Fin _ p e below s _ _ _ s₁ (mkF m 27 #[.val (.ref b), .val (.int (0 : Int32)), .val (.ref d), .val (.int (0 : Int32)), .val (.int (2 : Int32)), .val (.int (0 : Int32)), .val (.int x1)] [(.ref d)])
  refine Fin.go (fun _ k => XS.iloadN X0.here hx rfl (hb hby d5_27) rfl k) ?_
  show Fin _ p e below s _ _ _ s₁ (mkF m 28 #[.val (.ref b), .val (.int (0 : Int32)), .val (.ref d), .val (.int (0 : Int32)), .val (.int (2 : Int32)), .val (.int (0 : Int32)), .val (.int x1)] [(.int (0 : Int32)), (.ref d)])
  refine Fin.go (fun _ k => XS.iload X0.here hx rfl (hb hby d5_28) rfl k) ?_
  show Fin _ p e below s _ _ _ s₁ (mkF m 30 #[.val (.ref b), .val (.int (0 : Int32)), .val (.ref d), .val (.int (0 : Int32)), .val (.int (2 : Int32)), .val (.int (0 : Int32)), .val (.int x1)] [(.int x1), (.int (0 : Int32)), (.ref d)])
  refine Fin.go (fun _ k => XT.i2b X0.here hx rfl (hb hby d5_30) rfl k) ?_
  show Fin _ p e below s _ _ _ s₁ (mkF m 31 #[.val (.ref b), .val (.int (0 : Int32)), .val (.ref d), .val (.int (0 : Int32)), .val (.int (2 : Int32)), .val (.int (0 : Int32)), .val (.int x1)] [(.int ((Int32.toInt8 x1).toInt32)), (.int (0 : Int32)), (.ref d)])
  obtain ⟨c2, B2, q2, S2, M2, H2, G2⟩ := id VD
  obtain ⟨T2, h2, X2, e2, W2, st2⟩ := stB X0 hx hZ e0 B2 (j := (0 : Int32)) (inb_of S2 ⟨(by decide : ¬ ((0 : Int32) < (0 : Int32))), (by decide : (0 : Int32) < (2 : Int32))⟩) (g := (mkF m 31 #[.val (.ref b), .val (.int (0 : Int32)), .val (.ref d), .val (.int (0 : Int32)), .val (.int (2 : Int32)), .val (.int (0 : Int32)), .val (.int x1)] [(.int ((Int32.toInt8 x1).toInt32)), (.int (0 : Int32)), (.ref d)])) rfl rfl (hb hby d5_31)
  refine Fin.go st2 ?_
  have V2 : Arv Z h2 d kd .byte (2 : Int32) [(.int ((Int32.toInt8 x1).toInt32)), (.int (0 : Int32))] (.int (0 : Int32)) := (by have q : Arv Z h2 d kd .byte (2 : Int32) [(.int (nar .byte ((Int32.toInt8 x1).toInt32))), (.int (0 : Int32))] (.int (0 : Int32)) := (Arv.set B2 q2 S2 M2 H2 G2 (fits_nar_byte _) W2 0 rfl (Nat.le_of_ble_eq_true rfl)); rwa [nar_b8] at q)
  have N2 := Fr.snoc X2 N0 nd
  have O2 := O.wr W2 nd
  have K2 := K0.wr W2 (Or.inl (List.mem_of_getElem? (i := 0) rfl))
  show Fin _ p e below s _ _ _ T2 (mkF m 32 #[.val (.ref b), .val (.int (0 : Int32)), .val (.ref d), .val (.int (0 : Int32)), .val (.int (2 : Int32)), .val (.int (0 : Int32)), .val (.int x1)] [])
  refine Fin.go (fun _ k => XS.iinc X2.here hx rfl (hb hby d5_32) rfl (l' := #[.val (.ref b), .val (.int ((0 : Int32) + (1 : Int32))), .val (.ref d), .val (.int (0 : Int32)), .val (.int (2 : Int32)), .val (.int (0 : Int32)), .val (.int x1)]) rfl k) ?_
  show Fin _ p e below s _ _ _ T2 (mkF m 35 #[.val (.ref b), .val (.int ((0 : Int32) + (1 : Int32))), .val (.ref d), .val (.int (0 : Int32)), .val (.int (2 : Int32)), .val (.int (0 : Int32)), .val (.int x1)] [])
  refine Fin.go (fun _ k => XS.iinc X2.here hx rfl (hb hby d5_35) rfl (l' := #[.val (.ref b), .val (.int ((0 : Int32) + (1 : Int32))), .val (.ref d), .val (.int ((0 : Int32) + (1 : Int32))), .val (.int (2 : Int32)), .val (.int (0 : Int32)), .val (.int x1)]) rfl k) ?_
  show Fin _ p e below s _ _ _ T2 (mkF m 38 #[.val (.ref b), .val (.int ((0 : Int32) + (1 : Int32))), .val (.ref d), .val (.int ((0 : Int32) + (1 : Int32))), .val (.int (2 : Int32)), .val (.int (0 : Int32)), .val (.int x1)] [])
  refine Fin.go (fun _ k => XS.iinc X2.here hx rfl (hb hby d5_38) rfl (l' := #[.val (.ref b), .val (.int ((0 : Int32) + (1 : Int32))), .val (.ref d), .val (.int ((0 : Int32) + (1 : Int32))), .val (.int (2 : Int32)), .val (.int ((0 : Int32) + (1 : Int32))), .val (.int x1)]) rfl k) ?_
  show Fin _ p e below s _ _ _ T2 (mkF m 41 #[.val (.ref b), .val (.int ((0 : Int32) + (1 : Int32))), .val (.ref d), .val (.int ((0 : Int32) + (1 : Int32))), .val (.int (2 : Int32)), .val (.int ((0 : Int32) + (1 : Int32))), .val (.int x1)] [])
  refine Fin.go (fun _ k => XS.goto X2.here hx rfl (pc0 := 41) (pc' := 3) rfl (hb hby d5_41) (by decide) (by decide) k) ?_
  show Fin _ p e below s _ _ _ T2 (mkF m 3 #[.val (.ref b), .val (.int ((0 : Int32) + (1 : Int32))), .val (.ref d), .val (.int ((0 : Int32) + (1 : Int32))), .val (.int (2 : Int32)), .val (.int ((0 : Int32) + (1 : Int32))), .val (.int x1)] [])
  refine Fin.go (fun _ k => XS.iload X2.here hx rfl (hb hby d5_3) rfl k) ?_
  show Fin _ p e below s _ _ _ T2 (mkF m 5 #[.val (.ref b), .val (.int ((0 : Int32) + (1 : Int32))), .val (.ref d), .val (.int ((0 : Int32) + (1 : Int32))), .val (.int (2 : Int32)), .val (.int ((0 : Int32) + (1 : Int32))), .val (.int x1)] [(.int ((0 : Int32) + (1 : Int32)))])
  refine Fin.go (fun _ k => XS.iload X2.here hx rfl (hb hby d5_5) rfl k) ?_
  show Fin _ p e below s _ _ _ T2 (mkF m 7 #[.val (.ref b), .val (.int ((0 : Int32) + (1 : Int32))), .val (.ref d), .val (.int ((0 : Int32) + (1 : Int32))), .val (.int (2 : Int32)), .val (.int ((0 : Int32) + (1 : Int32))), .val (.int x1)] [(.int (2 : Int32)), (.int ((0 : Int32) + (1 : Int32)))])
  refine Fin.go (fun _ k => XS.icmpNo X2.here hx rfl (hb hby d5_7) rfl (XT.ii_ge_f (by decide)) k) ?_
  show Fin _ p e below s _ _ _ T2 (mkF m 10 #[.val (.ref b), .val (.int ((0 : Int32) + (1 : Int32))), .val (.ref d), .val (.int ((0 : Int32) + (1 : Int32))), .val (.int (2 : Int32)), .val (.int ((0 : Int32) + (1 : Int32))), .val (.int x1)] [])
  refine Fin.go (fun _ k => XS.aloadN X2.here hx rfl (hb hby d5_10) rfl rfl k) ?_
  show Fin _ p e below s _ _ _ T2 (mkF m 11 #[.val (.ref b), .val (.int ((0 : Int32) + (1 : Int32))), .val (.ref d), .val (.int ((0 : Int32) + (1 : Int32))), .val (.int (2 : Int32)), .val (.int ((0 : Int32) + (1 : Int32))), .val (.int x1)] [(.ref b)])
  refine Fin.go (fun _ k => XS.iloadN X2.here hx rfl (hb hby d5_11) rfl k) ?_
  show Fin _ p e below s _ _ _ T2 (mkF m 12 #[.val (.ref b), .val (.int ((0 : Int32) + (1 : Int32))), .val (.ref d), .val (.int ((0 : Int32) + (1 : Int32))), .val (.int (2 : Int32)), .val (.int ((0 : Int32) + (1 : Int32))), .val (.int x1)] [(.int ((0 : Int32) + (1 : Int32))), (.ref b)])
  obtain ⟨c3, B3, q3, S3, M3, H3, G3⟩ := id (VB.other W2 nbd)
  have i3 := inb_of S3 ⟨(by decide : ¬ (((0 : Int32) + (1 : Int32)) < (0 : Int32))), (by decide : ((0 : Int32) + (1 : Int32)) < (2 : Int32))⟩
  refine Fin.go (fun _ k => X2.caload hx (j := ((0 : Int32) + (1 : Int32))) (v := (.int x2)) (by rw [e2]; exact B3.1) (State.isArrayOf_alike hZ.alike B3.2.1) B3.2.2 i3 (Has.at H3 i3 rfl) (g := (mkF m 12 #[.val (.ref b), .val (.int ((0 : Int32) + (1 : Int32))), .val (.ref d), .val (.int ((0 : Int32) + (1 : Int32))), .val (.int (2 : Int32)), .val (.int ((0 : Int32) + (1 : Int32))), .val (.int x1)] [(.int ((0 : Int32) + (1 : Int32))), (.ref b)])) rfl rfl (hb hby d5_12) _ k) ?_
  show Fin _ p e below s _ _ _ T2 (mkF m 13 #[.val (.ref b), .val (.int ((0 : Int32) + (1 : Int32))), .val (.ref d), .val (.int ((0 : Int32) + (1 : Int32))), .val (.int (2 : Int32)), .val (.int ((0 : Int32) + (1 : Int32))), .val (.int x1)] [(.int x2)])
  refine Fin.go (fun _ k => XS.istore X2.here hx rfl (hb hby d5_13) rfl (l' := #[.val (.ref b), .val (.int ((0 : Int32) + (1 : Int32))), .val (.ref d), .val (.int ((0 : Int32) + (1 : Int32))), .val (.int (2 : Int32)), .val (.int ((0 : Int32) + (1 : Int32))), .val (.int x2)]) rfl k) ?_
  show Fin _ p e below s _ _ _ T2 (mkF m 15 #[.val (.ref b), .val (.int ((0 : Int32) + (1 : Int32))), .val (.ref d), .val (.int ((0 : Int32) + (1 : Int32))), .val (.int (2 : Int32)), .val (.int ((0 : Int32) + (1 : Int32))), .val (.int x2)] [])
  refine Fin.go (fun _ k => XS.iload X2.here hx rfl (hb hby d5_15) rfl k) ?_
  show Fin _ p e below s _ _ _ T2 (mkF m 17 #[.val (.ref b), .val (.int ((0 : Int32) + (1 : Int32))), .val (.ref d), .val (.int ((0 : Int32) + (1 : Int32))), .val (.int (2 : Int32)), .val (.int ((0 : Int32) + (1 : Int32))), .val (.int x2)] [(.int x2)])
  refine Fin.go (fun _ k => XS.sipush X2.here hx rfl (hb hby d5_17) k) ?_
  show Fin _ p e below s _ _ _ T2 (mkF m 20 #[.val (.ref b), .val (.int ((0 : Int32) + (1 : Int32))), .val (.ref d), .val (.int ((0 : Int32) + (1 : Int32))), .val (.int (2 : Int32)), .val (.int ((0 : Int32) + (1 : Int32))), .val (.int x2)] [(.int (255 : Int32)), (.int x2)])
  refine Fin.go (fun _ k => XS.icmpYes X2.here hx rfl (pc0 := 20) (pc' := 26) rfl (hb hby d5_20) rfl (XT.ii_le_t hp2) (by decide) (by decide) k) ?_
  show Fin _ p e below s _ _ _ T2 (mkF m 26 #[.val (.ref b), .val (.int ((0 : Int32) + (1 : Int32))), .val (.ref d), .val (.int ((0 : Int32) + (1 : Int32))), .val (.int (2 : Int32)), .val (.int ((0 : Int32) + (1 : Int32))), .val (.int x2)] [])
  refine Fin.go (fun _ k => XS.aloadN X2.here hx rfl (hb hby d5_26) rfl rfl k) ?_
  show Fin _ p e below s _ _ _ T2 (mkF m 27 #[.val (.ref b), .val (.int ((0 : Int32) + (1 : Int32))), .val (.ref d), .val (.int ((0 : Int32) + (1 : Int32))), .val (.int (2 : Int32)), .val (.int ((0 : Int32) + (1 : Int32))), .val (.int x2)] [(.ref d)])
  refine Fin.go (fun _ k => XS.iloadN X2.here hx rfl (hb hby d5_27) rfl k) ?_
  show Fin _ p e below s _ _ _ T2 (mkF m 28 #[.val (.ref b), .val (.int ((0 : Int32) + (1 : Int32))), .val (.ref d), .val (.int ((0 : Int32) + (1 : Int32))), .val (.int (2 : Int32)), .val (.int ((0 : Int32) + (1 : Int32))), .val (.int x2)] [(.int ((0 : Int32) + (1 : Int32))), (.ref d)])
  refine Fin.go (fun _ k => XS.iload X2.here hx rfl (hb hby d5_28) rfl k) ?_
  show Fin _ p e below s _ _ _ T2 (mkF m 30 #[.val (.ref b), .val (.int ((0 : Int32) + (1 : Int32))), .val (.ref d), .val (.int ((0 : Int32) + (1 : Int32))), .val (.int (2 : Int32)), .val (.int ((0 : Int32) + (1 : Int32))), .val (.int x2)] [(.int x2), (.int ((0 : Int32) + (1 : Int32))), (.ref d)])
  refine Fin.go (fun _ k => XT.i2b X2.here hx rfl (hb hby d5_30) rfl k) ?_
  show Fin _ p e below s _ _ _ T2 (mkF m 31 #[.val (.ref b), .val (.int ((0 : Int32) + (1 : Int32))), .val (.ref d), .val (.int ((0 : Int32) + (1 : Int32))), .val (.int (2 : Int32)), .val (.int ((0 : Int32) + (1 : Int32))), .val (.int x2)] [(.int ((Int32.toInt8 x2).toInt32)), (.int ((0 : Int32) + (1 : Int32))), (.ref d)])
  obtain ⟨c4, B4, q4, S4, M4, H4, G4⟩ := id V2
  obtain ⟨T4, h4, X4, e4, W4, st4⟩ := stB X2 hx hZ e2 B4 (j := ((0 : Int32) + (1 : Int32))) (inb_of S4 ⟨(by decide : ¬ (((0 : Int32) + (1 : Int32)) < (0 : Int32))), (by decide : ((0 : Int32) + (1 : Int32)) < (2 : Int32))⟩) (g := (mkF m 31 #[.val (.ref b), .val (.int ((0 : Int32) + (1 : Int32))), .val (.ref d), .val (.int ((0 : Int32) + (1 : Int32))), .val (.int (2 : Int32)), .val (.int ((0 : Int32) + (1 : Int32))), .val (.int x2)] [(.int ((Int32.toInt8 x2).toInt32)), (.int ((0 : Int32) + (1 : Int32))), (.ref d)])) rfl rfl (hb hby d5_31)
  refine Fin.go st4 ?_
  have V4 : Arv Z h4 d kd .byte (2 : Int32) [(.int ((Int32.toInt8 x1).toInt32)), (.int ((Int32.toInt8 x2).toInt32))] (.int (0 : Int32)) := (by have q : Arv Z h4 d kd .byte (2 : Int32) [(.int ((Int32.toInt8 x1).toInt32)), (.int (nar .byte ((Int32.toInt8 x2).toInt32)))] (.int (0 : Int32)) := (Arv.set B4 q4 S4 M4 H4 G4 (fits_nar_byte _) W4 1 rfl (Nat.le_of_ble_eq_true rfl)); rwa [nar_b8] at q)
  have N4 := Fr.snoc X4 N2 nd
  have O4 := O2.wr W4 nd
  have K4 := K2.wr W4 (Or.inl (List.mem_of_getElem? (i := 0) rfl))
  show Fin _ p e below s _ _ _ T4 (mkF m 32 #[.val (.ref b), .val (.int ((0 : Int32) + (1 : Int32))), .val (.ref d), .val (.int ((0 : Int32) + (1 : Int32))), .val (.int (2 : Int32)), .val (.int ((0 : Int32) + (1 : Int32))), .val (.int x2)] [])
  refine Fin.go (fun _ k => XS.iinc X4.here hx rfl (hb hby d5_32) rfl (l' := #[.val (.ref b), .val (.int (((0 : Int32) + (1 : Int32)) + (1 : Int32))), .val (.ref d), .val (.int ((0 : Int32) + (1 : Int32))), .val (.int (2 : Int32)), .val (.int ((0 : Int32) + (1 : Int32))), .val (.int x2)]) rfl k) ?_
  show Fin _ p e below s _ _ _ T4 (mkF m 35 #[.val (.ref b), .val (.int (((0 : Int32) + (1 : Int32)) + (1 : Int32))), .val (.ref d), .val (.int ((0 : Int32) + (1 : Int32))), .val (.int (2 : Int32)), .val (.int ((0 : Int32) + (1 : Int32))), .val (.int x2)] [])
  refine Fin.go (fun _ k => XS.iinc X4.here hx rfl (hb hby d5_35) rfl (l' := #[.val (.ref b), .val (.int (((0 : Int32) + (1 : Int32)) + (1 : Int32))), .val (.ref d), .val (.int (((0 : Int32) + (1 : Int32)) + (1 : Int32))), .val (.int (2 : Int32)), .val (.int ((0 : Int32) + (1 : Int32))), .val (.int x2)]) rfl k) ?_
  show Fin _ p e below s _ _ _ T4 (mkF m 38 #[.val (.ref b), .val (.int (((0 : Int32) + (1 : Int32)) + (1 : Int32))), .val (.ref d), .val (.int (((0 : Int32) + (1 : Int32)) + (1 : Int32))), .val (.int (2 : Int32)), .val (.int ((0 : Int32) + (1 : Int32))), .val (.int x2)] [])
  refine Fin.go (fun _ k => XS.iinc X4.here hx rfl (hb hby d5_38) rfl (l' := #[.val (.ref b), .val (.int (((0 : Int32) + (1 : Int32)) + (1 : Int32))), .val (.ref d), .val (.int (((0 : Int32) + (1 : Int32)) + (1 : Int32))), .val (.int (2 : Int32)), .val (.int (((0 : Int32) + (1 : Int32)) + (1 : Int32))), .val (.int x2)]) rfl k) ?_
  show Fin _ p e below s _ _ _ T4 (mkF m 41 #[.val (.ref b), .val (.int (((0 : Int32) + (1 : Int32)) + (1 : Int32))), .val (.ref d), .val (.int (((0 : Int32) + (1 : Int32)) + (1 : Int32))), .val (.int (2 : Int32)), .val (.int (((0 : Int32) + (1 : Int32)) + (1 : Int32))), .val (.int x2)] [])
  refine Fin.go (fun _ k => XS.goto X4.here hx rfl (pc0 := 41) (pc' := 3) rfl (hb hby d5_41) (by decide) (by decide) k) ?_
  show Fin _ p e below s _ _ _ T4 (mkF m 3 #[.val (.ref b), .val (.int (((0 : Int32) + (1 : Int32)) + (1 : Int32))), .val (.ref d), .val (.int (((0 : Int32) + (1 : Int32)) + (1 : Int32))), .val (.int (2 : Int32)), .val (.int (((0 : Int32) + (1 : Int32)) + (1 : Int32))), .val (.int x2)] [])
  refine Fin.go (fun _ k => XS.iload X4.here hx rfl (hb hby d5_3) rfl k) ?_
  show Fin _ p e below s _ _ _ T4 (mkF m 5 #[.val (.ref b), .val (.int (((0 : Int32) + (1 : Int32)) + (1 : Int32))), .val (.ref d), .val (.int (((0 : Int32) + (1 : Int32)) + (1 : Int32))), .val (.int (2 : Int32)), .val (.int (((0 : Int32) + (1 : Int32)) + (1 : Int32))), .val (.int x2)] [(.int (((0 : Int32) + (1 : Int32)) + (1 : Int32)))])
  refine Fin.go (fun _ k => XS.iload X4.here hx rfl (hb hby d5_5) rfl k) ?_
  show Fin _ p e below s _ _ _ T4 (mkF m 7 #[.val (.ref b), .val (.int (((0 : Int32) + (1 : Int32)) + (1 : Int32))), .val (.ref d), .val (.int (((0 : Int32) + (1 : Int32)) + (1 : Int32))), .val (.int (2 : Int32)), .val (.int (((0 : Int32) + (1 : Int32)) + (1 : Int32))), .val (.int x2)] [(.int (2 : Int32)), (.int (((0 : Int32) + (1 : Int32)) + (1 : Int32)))])
  refine Fin.go (fun _ k => XS.icmpYes X4.here hx rfl (pc0 := 7) (pc' := 44) rfl (hb hby d5_7) rfl (XT.ii_ge_t (by decide)) (by decide) (by decide) k) ?_
  show Fin _ p e below s _ _ _ T4 (mkF m 44 #[.val (.ref b), .val (.int (((0 : Int32) + (1 : Int32)) + (1 : Int32))), .val (.ref d), .val (.int (((0 : Int32) + (1 : Int32)) + (1 : Int32))), .val (.int (2 : Int32)), .val (.int (((0 : Int32) + (1 : Int32)) + (1 : Int32))), .val (.int x2)] [])
  refine Fin.go (fun _ k => XS.iload X4.here hx rfl (hb hby d5_44) rfl k) ?_
  show Fin _ p e below s _ _ _ T4 (mkF m 46 #[.val (.ref b), .val (.int (((0 : Int32) + (1 : Int32)) + (1 : Int32))), .val (.ref d), .val (.int (((0 : Int32) + (1 : Int32)) + (1 : Int32))), .val (.int (2 : Int32)), .val (.int (((0 : Int32) + (1 : Int32)) + (1 : Int32))), .val (.int x2)] [(.int (2 : Int32))])
  exact Fin.leaveN X4 e4 hlk (v := some (.int (2 : Int32))) (fun h => by rw [hret] at h; cases h) (by decide) (by decide) ⟨rfl, N4, K4, V4⟩ (fun fs hr => retI X4 hx hret (hb hby d5_46) hr)
set_option maxRecDepth 65536 in
set_option maxHeartbeats 40000000 in
theorem rmCmpA2 (l : Launch) (Z : State) (a0 : Array Value) (hw : ∀ d ∈ tables_1, d.before a0 Z = true) (n0 : Nat) (h0 : Heap) (O : Old Z n0 h0) (b : Addr) (kb : ClassId) (x1 x2 : Int32) (VB : Arv Z h0 b kb .char (2 : Int32) [(.int x1), (.int x2)] (.int (0 : Int32))) (hp1 : ¬ (255 : Int32) < x1) (hp2 : ¬ (255 : Int32) < x2) :
    ConW FrameEnd l Z [] (⟨"java/lang/StringUTF16", "compress", "([CII)[B"⟩ : MethodName) jdk_52_method_16_code 6 (some (.array .byte)) ({ frames := 1, cells := 1, slots := 2, locals := 18 } : Room) #[(.ref b), (.int (0 : Int32)), (.int (2 : Int32))] h0 (fun v h L => ∃ d kd, v = some (.ref d) ∧ Fr n0 L ∧ Keep h0 h [] ∧ Arv Z h d kd .byte (2 : Int32) [(.int ((Int32.toInt8 x1).toInt32)), (.int ((Int32.toInt8 x2).toInt32))] (.int (0 : Int32)) ∧ h0.size ≤ d) := by
  refine conOf (plainFor_of_name pn_java_lang_StringUTF16) ?_
  intro p e s m below mth cc s₁ X0 hx hby hml hown hnm hret hlk hZ e0
  have N0 := Fr.nil n0
  have K0 := Keep.refl h0 ([] : List Addr)
  refine Fin.came (castTop (t := _) (by first | (simp [entryFrame, mkF, argsToLocals, Value.category]; done) | rfl) (Steps.refl _) : Steps p.tables e below (s₁.setTop (entryFrame m #[(.ref b), (.int (0 : Int32)), (.int (2 : Int32))] 6)) (s₁.setTop (mkF m 0 #[.val (.ref b), .val (.int (0 : Int32)), .val (.int (2 : Int32)), .unset, .unset, .unset] []))) ?_
  show Fin _ p e below s _ _ _ s₁ (mkF m 0 #[.val (.ref b), .val (.int (0 : Int32)), .val (.int (2 : Int32)), .unset, .unset, .unset] [])
  refine Fin.go (fun _ k => XS.iloadN X0.here hx rfl (hb hby d4_0) rfl k) ?_
  show Fin _ p e below s _ _ _ s₁ (mkF m 1 #[.val (.ref b), .val (.int (0 : Int32)), .val (.int (2 : Int32)), .unset, .unset, .unset] [(.int (2 : Int32))])
  obtain ⟨T1, h1, k1, X1, e1, E1, A1, st1⟩ := newP X0 hx hZ (aty := .byte) (hw _ w_19) e0 (g := (mkF m 1 #[.val (.ref b), .val (.int (0 : Int32)), .val (.int (2 : Int32)), .unset, .unset, .unset] [(.int (2 : Int32))])) rfl (hb hby d4_1) rfl (by decide : ¬ ((2 : Int32) < (0 : Int32))) (cap := 2) (by decide) (by decide) (by decide) (by decide)
  obtain ⟨a1, g1⟩ : ∃ z, z = h0.size := ⟨_, rfl⟩
  rw [← g1] at A1 st1
  refine Fin.go st1 ?_
  have O1 := O.ext E1
  have K1 := K0.ext E1
  have n1 : n0 ≤ a1 := by have := O.2.1; have := O.1; omega
  have z1 : h0.size ≤ a1 := by have := K0.1; omega
  have V1 : Arv Z h1 a1 k1 .byte (2 : Int32) [(.int (0 : Int32)), (.int (0 : Int32))] (.int (0 : Int32)) := (Arv.new A1 (by decide)).pad (pad_rep [] (.int (0 : Int32)) 2)
  show Fin _ p e below s _ _ _ T1 (mkF m 3 #[.val (.ref b), .val (.int (0 : Int32)), .val (.int (2 : Int32)), .unset, .unset, .unset] [(.ref a1)])
  refine Fin.go (fun _ k => XS.astoreN X1.here hx rfl (hb hby d4_3) rfl rfl (l' := #[.val (.ref b), .val (.int (0 : Int32)), .val (.int (2 : Int32)), .val (.ref a1), .unset, .unset]) rfl k) ?_
  show Fin _ p e below s _ _ _ T1 (mkF m 4 #[.val (.ref b), .val (.int (0 : Int32)), .val (.int (2 : Int32)), .val (.ref a1), .unset, .unset] [])
  refine Fin.go (fun _ k => XS.aloadN X1.here hx rfl (hb hby d4_4) rfl rfl k) ?_
  show Fin _ p e below s _ _ _ T1 (mkF m 5 #[.val (.ref b), .val (.int (0 : Int32)), .val (.int (2 : Int32)), .val (.ref a1), .unset, .unset] [(.ref b)])
  refine Fin.go (fun _ k => XS.iloadN X1.here hx rfl (hb hby d4_5) rfl k) ?_
  show Fin _ p e below s _ _ _ T1 (mkF m 6 #[.val (.ref b), .val (.int (0 : Int32)), .val (.int (2 : Int32)), .val (.ref a1), .unset, .unset] [(.int (0 : Int32)), (.ref b)])
  refine Fin.go (fun _ k => XS.aloadN X1.here hx rfl (hb hby d4_6) rfl rfl k) ?_
  show Fin _ p e below s _ _ _ T1 (mkF m 7 #[.val (.ref b), .val (.int (0 : Int32)), .val (.int (2 : Int32)), .val (.ref a1), .unset, .unset] [(.ref a1), (.int (0 : Int32)), (.ref b)])
  refine Fin.go (fun _ k => XS.iconst X1.here hx rfl (hb hby d4_7) k) ?_
  show Fin _ p e below s _ _ _ T1 (mkF m 8 #[.val (.ref b), .val (.int (0 : Int32)), .val (.int (2 : Int32)), .val (.ref a1), .unset, .unset] [(.int (0 : Int32)), (.ref a1), (.int (0 : Int32)), (.ref b)])
  refine Fin.go (fun _ k => XS.iloadN X1.here hx rfl (hb hby d4_8) rfl k) ?_
  show Fin _ p e below s _ _ _ T1 (mkF m 9 #[.val (.ref b), .val (.int (0 : Int32)), .val (.int (2 : Int32)), .val (.ref a1), .unset, .unset] [(.int (2 : Int32)), (.int (0 : Int32)), (.ref a1), (.int (0 : Int32)), (.ref b)])
  obtain ⟨v2, T2, L2, X2, q2, st2⟩ := callSt X1 hx hZ (y := (⟨"java/lang/StringUTF16", "compress", "([CI[BII)I"⟩ : MethodName)) hown (hw _ w_20) (hw _ w_21) (hw _ w_17) (hw _ w_22) (by decide) (W := 0) (rmCmpB2 l Z a0 hw n0 h1 O1 b a1 kb k1 x1 x2 (VB.ext E1) V1 hp1 hp2 n1 (Nat.ne_of_lt (Nat.lt_of_lt_of_eq VB.lt g1.symm))) e1 (by decide) (by decide) (by decide) (by decide) (g := (mkF m 9 #[.val (.ref b), .val (.int (0 : Int32)), .val (.int (2 : Int32)), .val (.ref a1), .unset, .unset] [(.int (2 : Int32)), (.int (0 : Int32)), (.ref a1), (.int (0 : Int32)), (.ref b)])) rfl (by rw [hml]; rfl) (argsL := [(.ref b), (.int (0 : Int32)), (.ref a1), (.int (0 : Int32)), (.int (2 : Int32))]) (rest := []) (lenOf pd_oACIABIIcI rfl) rfl (by show 2 * 0 + _ ≤ _; exact Nat.le_of_eq rfl) (hb hby d4_9)
  obtain ⟨rfl, Nq2, Kq2, V2⟩ := q2
  have N2 := Fr.app N0 Nq2
  have O2 := O1.keep Kq2 (allS n1 all0)
  have K2 := K1.trans Kq2 (allS (Or.inr z1) all0)
  refine Fin.go st2 ?_
  have V2_b := ((VB.ext E1).keep Kq2 (ninS (Nat.ne_of_lt (Nat.lt_of_lt_of_eq VB.lt g1.symm)) nin0))
  show Fin _ p e below s _ _ _ T2 (mkF m 12 #[.val (.ref b), .val (.int (0 : Int32)), .val (.int (2 : Int32)), .val (.ref a1), .unset, .unset] [(.int (2 : Int32))])
  refine Fin.go (fun _ k => XS.istore X2.here hx rfl (hb hby d4_12) rfl (l' := #[.val (.ref b), .val (.int (0 : Int32)), .val (.int (2 : Int32)), .val (.ref a1), .val (.int (2 : Int32)), .unset]) rfl k) ?_
  show Fin _ p e below s _ _ _ T2 (mkF m 14 #[.val (.ref b), .val (.int (0 : Int32)), .val (.int (2 : Int32)), .val (.ref a1), .val (.int (2 : Int32)), .unset] [])
  refine Fin.go (fun _ k => XS.iload X2.here hx rfl (hb hby d4_14) rfl k) ?_
  show Fin _ p e below s _ _ _ T2 (mkF m 16 #[.val (.ref b), .val (.int (0 : Int32)), .val (.int (2 : Int32)), .val (.ref a1), .val (.int (2 : Int32)), .unset] [(.int (2 : Int32))])
  refine Fin.go (fun _ k => XS.iloadN X2.here hx rfl (hb hby d4_16) rfl k) ?_
  show Fin _ p e below s _ _ _ T2 (mkF m 17 #[.val (.ref b), .val (.int (0 : Int32)), .val (.int (2 : Int32)), .val (.ref a1), .val (.int (2 : Int32)), .unset] [(.int (2 : Int32)), (.int (2 : Int32))])
  refine Fin.go (fun _ k => XS.icmpYes X2.here hx rfl (pc0 := 17) (pc' := 57) rfl (hb hby d4_17) rfl (XT.ii_eq_t (by decide)) (by decide) (by decide) k) ?_
  show Fin _ p e below s _ _ _ T2 (mkF m 57 #[.val (.ref b), .val (.int (0 : Int32)), .val (.int (2 : Int32)), .val (.ref a1), .val (.int (2 : Int32)), .unset] [])
  refine Fin.go (fun _ k => XS.aloadN X2.here hx rfl (hb hby d4_57) rfl rfl k) ?_
  show Fin _ p e below s _ _ _ T2 (mkF m 58 #[.val (.ref b), .val (.int (0 : Int32)), .val (.int (2 : Int32)), .val (.ref a1), .val (.int (2 : Int32)), .unset] [(.ref a1)])
  exact Fin.leaveN X2 (rfl : T2.heap = T2.heap) hlk (v := some (.ref a1)) (fun h => by rw [hret] at h; cases h) (by decide) (by decide) ⟨a1, k1, rfl, N2, K2, V2, z1⟩ (fun fs hr => retOut X2 hx hret rfl (Or.inr (Or.inr (Or.inr (Or.inr ⟨rfl, rfl, rfl⟩)))) (hb hby d4_58) hr)
set_option maxRecDepth 65536 in
set_option maxHeartbeats 40000000 in
theorem rmCod2 (l : Launch) (Z : State) (a0 : Array Value) (hw : ∀ d ∈ tables_1, d.before a0 Z = true) (n0 : Nat) (h0 : Heap) (O : Old Z n0 h0) (d : Addr) (kd : ClassId) (x1 x2 : Int32) (VD : Arv Z h0 d kd .byte (2 : Int32) [(.int x1), (.int x2)] (.int (0 : Int32))) :
    ConW FrameEnd l Z [] (⟨"java/lang/StringUTF16", "coderFromArrayLen", "([BI)B"⟩ : MethodName) jdk_52_method_15_code 2 (some .byte) ({ frames := 0, cells := 0, slots := 0, locals := 0 } : Room) #[(.ref d), (.int (2 : Int32))] h0 (Pure h0 (some (.int (0 : Int32)))) := by
  refine conOf (plainFor_of_name pn_java_lang_StringUTF16) ?_
  intro p e s m below mth cc s₁ X0 hx hby hml hown hnm hret hlk hZ e0
  have N0 := Fr.nil n0
  refine Fin.came (castTop (t := _) (by first | (simp [entryFrame, mkF, argsToLocals, Value.category]; done) | rfl) (Steps.refl _) : Steps p.tables e below (s₁.setTop (entryFrame m #[(.ref d), (.int (2 : Int32))] 2)) (s₁.setTop (mkF m 0 #[.val (.ref d), .val (.int (2 : Int32))] []))) ?_
  show Fin _ p e below s _ _ _ s₁ (mkF m 0 #[.val (.ref d), .val (.int (2 : Int32))] [])
  refine Fin.go (fun _ k => XS.iloadN X0.here hx rfl (hb hby d6_0) rfl k) ?_
  show Fin _ p e below s _ _ _ s₁ (mkF m 1 #[.val (.ref d), .val (.int (2 : Int32))] [(.int (2 : Int32))])
  refine Fin.go (fun _ k => XS.aloadN X0.here hx rfl (hb hby d6_1) rfl rfl k) ?_
  show Fin _ p e below s _ _ _ s₁ (mkF m 2 #[.val (.ref d), .val (.int (2 : Int32))] [(.ref d), (.int (2 : Int32))])
  obtain ⟨c1, B1, q1, S1, M1, H1, G1⟩ := id VD
  refine Fin.go (fun _ k => X0.arraylength hx (by rw [e0]; exact B1.1) (State.isArrayOf_alike hZ.alike B1.2.1) (g := (mkF m 2 #[.val (.ref d), .val (.int (2 : Int32))] [(.ref d), (.int (2 : Int32))])) rfl rfl (hb hby d6_2) _ k) ?_
  rw [len_of S1 M1]
  show Fin _ p e below s _ _ _ s₁ (mkF m 3 #[.val (.ref d), .val (.int (2 : Int32))] [(.int (2 : Int32)), (.int (2 : Int32))])
  refine Fin.go (fun _ k => XS.isub X0.here hx rfl (hb hby d6_3) rfl k) ?_
  show Fin _ p e below s _ _ _ s₁ (mkF m 4 #[.val (.ref d), .val (.int (2 : Int32))] [(.int ((2 : Int32) - (2 : Int32)))])
  refine Fin.go (fun _ k => XS.bipush X0.here hx rfl (hb hby d6_4) k) ?_
  show Fin _ p e below s _ _ _ s₁ (mkF m 6 #[.val (.ref d), .val (.int (2 : Int32))] [(.int (31 : Int32)), (.int ((2 : Int32) - (2 : Int32)))])
  refine Fin.go (fun _ k => XT.iushr X0.here hx rfl (hb hby d6_6) rfl k) ?_
  show Fin _ p e below s _ _ _ s₁ (mkF m 7 #[.val (.ref d), .val (.int (2 : Int32))] [(.int (XT.ushr ((2 : Int32) - (2 : Int32)) (31 : Int32)))])
  refine Fin.go (fun _ k => XT.i2b X0.here hx rfl (hb hby d6_7) rfl k) ?_
  show Fin _ p e below s _ _ _ s₁ (mkF m 8 #[.val (.ref d), .val (.int (2 : Int32))] [(.int ((Int32.toInt8 (XT.ushr ((2 : Int32) - (2 : Int32)) (31 : Int32))).toInt32))])
  exact Fin.leaveN X0 e0 hlk (v := some (.int (nar .byte ((Int32.toInt8 (XT.ushr ((2 : Int32) - (2 : Int32)) (31 : Int32))).toInt32)))) (fun h => by rw [hret] at h; cases h) (by decide) (by decide) ⟨by decide +kernel, rfl, rfl⟩ (fun fs hr => retN X0 hx (t := .byte) hret (by simp) (hb hby d6_8) hr)
set_option maxRecDepth 65536 in
set_option maxHeartbeats 40000000 in
theorem rmStrV2 (l : Launch) (Z : State) (a0 : Array Value) (hw : ∀ d ∈ tables_1, d.before a0 Z = true) (n0 : Nat) (h0 : Heap) (O : Old Z n0 h0) (a b : Addr) (kb : ClassId) (x1 x2 : Int32) (cs : Int32) (S_cs : Sta Z Z.heap "java/lang/String" "COMPACT_STRINGS" "Z" (.int cs)) (hcs : ¬ cs = 0) (VB : Arv Z h0 b kb .char (2 : Int32) [(.int x1), (.int x2)] (.int (0 : Int32))) (A : Exa Z h0 a "java/lang/String") (F1 : Fld Z h0 a "java/lang/String" "coder" "B" (.int (0 : Int32))) (F2 : Fld Z h0 a "java/lang/String" "value" "[B" .null) (hp1 : ¬ (255 : Int32) < x1) (hp2 : ¬ (255 : Int32) < x2) (na : n0 ≤ a) (nba : b ≠ a) :
    ConW FrameEnd l Z [] (⟨"java/lang/String", "<init>", "([CIILjava/lang/Void;)V"⟩ : MethodName) jdk_42_method_149_code 6 none ({ frames := 2, cells := 1, slots := 2, locals := 35 } : Room) #[(.ref a), (.ref b), (.int (0 : Int32)), (.int (2 : Int32)), .null] h0 (fun v h L => v = none ∧ Fr n0 L ∧ Keep h0 h [a] ∧ Exa Z h a "java/lang/String" ∧ Fld Z h a "java/lang/String" "coder" "B" (.int (0 : Int32)) ∧ ∃ d kd, Fld Z h a "java/lang/String" "value" "[B" (.ref d) ∧ Arv Z h d kd .byte (2 : Int32) [(.int ((Int32.toInt8 x1).toInt32)), (.int ((Int32.toInt8 x2).toInt32))] (.int (0 : Int32)) ∧ h0.size ≤ d) := by
  refine conOf (plainFor_of_name pn_java_lang_String) ?_
  intro p e s m below mth cc s₁ X0 hx hby hml hown hnm hret hlk hZ e0
  have N0 := Fr.nil n0
  have K0 := Keep.refl h0 ([a] : List Addr)
  refine Fin.came (castTop (t := _) (by first | (simp [entryFrame, mkF, argsToLocals, Value.category]; done) | rfl) (Steps.refl _) : Steps p.tables e below (s₁.setTop (entryFrame m #[(.ref a), (.ref b), (.int (0 : Int32)), (.int (2 : Int32)), .null] 6)) (s₁.setTop (mkF m 0 #[.val (.ref a), .val (.ref b), .val (.int (0 : Int32)), .val (.int (2 : Int32)), .val .null, .unset] []))) ?_
  show Fin _ p e below s _ _ _ s₁ (mkF m 0 #[.val (.ref a), .val (.ref b), .val (.int (0 : Int32)), .val (.int (2 : Int32)), .val .null, .unset] [])
  refine Fin.go (fun _ k => XS.aloadN X0.here hx rfl (hb hby d2_0) rfl rfl k) ?_
  show Fin _ p e below s _ _ _ s₁ (mkF m 1 #[.val (.ref a), .val (.ref b), .val (.int (0 : Int32)), .val (.int (2 : Int32)), .val .null, .unset] [(.ref a)])
  obtain ⟨T1, X1, e1, st1⟩ := initO X0 hx hZ hown (hw _ w_11) (hw _ w_12) (hw _ w_13) e0 (g := (mkF m 1 #[.val (.ref a), .val (.ref b), .val (.int (0 : Int32)), .val (.int (2 : Int32)), .val .null, .unset] [(.ref a)])) rfl (by rw [hml]; rfl) rfl (hb hby d2_1) (by decide) (W := 0) (by show 2 * 0 + _ ≤ _; exact Nat.le_of_eq rfl) (by decide)
  refine Fin.go st1 ?_
  show Fin _ p e below s _ _ _ T1 (mkF m 4 #[.val (.ref a), .val (.ref b), .val (.int (0 : Int32)), .val (.int (2 : Int32)), .val .null, .unset] [])
  refine Fin.go (fun _ k => XS.iloadN X1.here hx rfl (hb hby d2_4) rfl k) ?_
  show Fin _ p e below s _ _ _ T1 (mkF m 5 #[.val (.ref a), .val (.ref b), .val (.int (0 : Int32)), .val (.int (2 : Int32)), .val .null, .unset] [(.int (2 : Int32))])
  refine Fin.go (fun _ k => XS.ifYes X1.here hx rfl (pc0 := 5) (pc' := 27) rfl (hb hby d2_5) rfl (XT.i0_ne_t (by decide)) (by decide) (by decide) k) ?_
  show Fin _ p e below s _ _ _ T1 (mkF m 27 #[.val (.ref a), .val (.ref b), .val (.int (0 : Int32)), .val (.int (2 : Int32)), .val .null, .unset] [])
  obtain ⟨T2, X2, e2, st2⟩ := getS2 X1 hx hZ hown (host := "") (Or.inl (hw _ w_14)) Via.refl e1 (S_cs.ext O.2) (g := (mkF m 27 #[.val (.ref a), .val (.ref b), .val (.int (0 : Int32)), .val (.int (2 : Int32)), .val .null, .unset] [])) rfl (hb hby d2_27)
  refine Fin.go st2 ?_
  show Fin _ p e below s _ _ _ T2 (mkF m 30 #[.val (.ref a), .val (.ref b), .val (.int (0 : Int32)), .val (.int (2 : Int32)), .val .null, .unset] [(.int cs)])
  refine Fin.go (fun _ k => XS.ifNo X2.here hx rfl (hb hby d2_30) rfl (XT.i0_eq_f hcs) k) ?_
  show Fin _ p e below s _ _ _ T2 (mkF m 33 #[.val (.ref a), .val (.ref b), .val (.int (0 : Int32)), .val (.int (2 : Int32)), .val .null, .unset] [])
  refine Fin.go (fun _ k => XS.aloadN X2.here hx rfl (hb hby d2_33) rfl rfl k) ?_
  show Fin _ p e below s _ _ _ T2 (mkF m 34 #[.val (.ref a), .val (.ref b), .val (.int (0 : Int32)), .val (.int (2 : Int32)), .val .null, .unset] [(.ref b)])
  refine Fin.go (fun _ k => XS.iloadN X2.here hx rfl (hb hby d2_34) rfl k) ?_
  show Fin _ p e below s _ _ _ T2 (mkF m 35 #[.val (.ref a), .val (.ref b), .val (.int (0 : Int32)), .val (.int (2 : Int32)), .val .null, .unset] [(.int (0 : Int32)), (.ref b)])
  refine Fin.go (fun _ k => XS.iloadN X2.here hx rfl (hb hby d2_35) rfl k) ?_
  show Fin _ p e below s _ _ _ T2 (mkF m 36 #[.val (.ref a), .val (.ref b), .val (.int (0 : Int32)), .val (.int (2 : Int32)), .val .null, .unset] [(.int (2 : Int32)), (.int (0 : Int32)), (.ref b)])
  obtain ⟨v3, T3, L3, X3, q3, st3⟩ := callSt X2 hx hZ (y := (⟨"java/lang/StringUTF16", "compress", "([CII)[B"⟩ : MethodName)) hown (hw _ w_15) (hw _ w_16) (hw _ w_17) (hw _ w_18) (by decide) (W := 0) (rmCmpA2 l Z a0 hw n0 h0 O b kb x1 x2 VB hp1 hp2) e2 (by decide) (by decide) (by decide) (by decide) (g := (mkF m 36 #[.val (.ref a), .val (.ref b), .val (.int (0 : Int32)), .val (.int (2 : Int32)), .val .null, .unset] [(.int (2 : Int32)), (.int (0 : Int32)), (.ref b)])) rfl (by rw [hml]; rfl) (argsL := [(.ref b), (.int (0 : Int32)), (.int (2 : Int32))]) (rest := []) (lenOf pd_oACIIcAB rfl) rfl (by show 2 * 0 + _ ≤ _; exact Nat.le_of_eq rfl) (hb hby d2_36)
  obtain ⟨d3, kd3, rfl, Nq3, Kq3, V3, zd3⟩ := q3
  have N3 := Fr.app N0 Nq3
  have O3 := O.keep Kq3 all0
  have K3 := K0.trans Kq3 all0
  refine Fin.go st3 ?_
  show Fin _ p e below s _ _ _ T3 (mkF m 39 #[.val (.ref a), .val (.ref b), .val (.int (0 : Int32)), .val (.int (2 : Int32)), .val .null, .unset] [(.ref d3)])
  have nzd3 : n0 ≤ d3 := Nat.le_trans (by have := O.1; have := O.2.1; omega) zd3
  have hzd3 : h0.size ≤ d3 := Nat.le_trans K0.1 zd3
  refine Fin.go (fun _ k => XS.astore X3.here hx rfl (hb hby d2_39) rfl rfl (l' := #[.val (.ref a), .val (.ref b), .val (.int (0 : Int32)), .val (.int (2 : Int32)), .val .null, .val (.ref d3)]) rfl k) ?_
  show Fin _ p e below s _ _ _ T3 (mkF m 41 #[.val (.ref a), .val (.ref b), .val (.int (0 : Int32)), .val (.int (2 : Int32)), .val .null, .val (.ref d3)] [])
  refine Fin.go (fun _ k => XS.aloadN X3.here hx rfl (hb hby d2_41) rfl rfl k) ?_
  show Fin _ p e below s _ _ _ T3 (mkF m 42 #[.val (.ref a), .val (.ref b), .val (.int (0 : Int32)), .val (.int (2 : Int32)), .val .null, .val (.ref d3)] [(.ref a)])
  refine Fin.go (fun _ k => XS.aload X3.here hx rfl (hb hby d2_42) rfl rfl k) ?_
  show Fin _ p e below s _ _ _ T3 (mkF m 44 #[.val (.ref a), .val (.ref b), .val (.int (0 : Int32)), .val (.int (2 : Int32)), .val .null, .val (.ref d3)] [(.ref d3), (.ref a)])
  refine Fin.go (fun _ k => XS.iloadN X3.here hx rfl (hb hby d2_44) rfl k) ?_
  show Fin _ p e below s _ _ _ T3 (mkF m 45 #[.val (.ref a), .val (.ref b), .val (.int (0 : Int32)), .val (.int (2 : Int32)), .val .null, .val (.ref d3)] [(.int (2 : Int32)), (.ref d3), (.ref a)])
  obtain ⟨v4, T4, L4, X4, q4, st4⟩ := callSt X3 hx hZ (y := (⟨"java/lang/StringUTF16", "coderFromArrayLen", "([BI)B"⟩ : MethodName)) hown (hw _ w_23) (hw _ w_24) (hw _ w_17) (hw _ w_25) (by decide) (W := 1) (rmCod2 l Z a0 hw n0 T3.heap O3 d3 kd3 ((Int32.toInt8 x1).toInt32) ((Int32.toInt8 x2).toInt32) V3) (rfl : T3.heap = T3.heap) (by decide) (by decide) (by decide) (by decide) (g := (mkF m 45 #[.val (.ref a), .val (.ref b), .val (.int (0 : Int32)), .val (.int (2 : Int32)), .val .null, .val (.ref d3)] [(.int (2 : Int32)), (.ref d3), (.ref a)])) rfl (by rw [hml]; rfl) (argsL := [(.ref d3), (.int (2 : Int32))]) (rest := [(.ref a)]) (lenOf pd_oABIcB rfl) rfl (by show 2 * 0 + _ ≤ _; exact Nat.le_of_eq rfl) (hb hby d2_45)
  obtain ⟨rfl, e4, rfl⟩ := q4
  have N4 := Fr.app N3 (Fr.nil n0)
  refine Fin.go st4 ?_
  show Fin _ p e below s _ _ _ T4 (mkF m 48 #[.val (.ref a), .val (.ref b), .val (.int (0 : Int32)), .val (.int (2 : Int32)), .val .null, .val (.ref d3)] [(.int (0 : Int32)), (.ref a)])
  obtain ⟨T5, h5, X5, e5, W5, st5⟩ := putF X4 hx hZ hown (host := "") (Or.inl (hw _ w_26)) Via.refl e4 (F1.keep Kq3 nin0) (A.keep Kq3) (Or.inr ⟨(hw _ w_27), rfl, hnm⟩) (hw _ w_1) (ty := .byte) (by decide) rfl rfl (g := (mkF m 48 #[.val (.ref a), .val (.ref b), .val (.int (0 : Int32)), .val (.int (2 : Int32)), .val .null, .val (.ref d3)] [(.int (0 : Int32)), (.ref a)])) rfl rfl (hb hby d2_48)
  refine Fin.go st5 ?_
  have N5 := Fr.snoc X5 N4 na
  have O5 := O3.wr W5 na
  have K5 := K3.wr W5 (Or.inl (List.mem_of_getElem? (i := 0) rfl))
  have F5_a_value := ((F2.keep Kq3 nin0).other W5 (Or.inr (slot_ne (Or.inr (hw _ w_29)) (Or.inr (hw _ w_27)) (by decide) (t := (.array .byte)) (t' := .byte) (by decide) (by decide))))
  have V5_d3 := (V3.other W5 (Ne.symm (Nat.ne_of_lt (Nat.lt_of_lt_of_le F2.lt zd3))))
  show Fin _ p e below s _ _ _ T5 (mkF m 51 #[.val (.ref a), .val (.ref b), .val (.int (0 : Int32)), .val (.int (2 : Int32)), .val .null, .val (.ref d3)] [])
  refine Fin.go (fun _ k => XS.aloadN X5.here hx rfl (hb hby d2_51) rfl rfl k) ?_
  show Fin _ p e below s _ _ _ T5 (mkF m 52 #[.val (.ref a), .val (.ref b), .val (.int (0 : Int32)), .val (.int (2 : Int32)), .val .null, .val (.ref d3)] [(.ref a)])
  refine Fin.go (fun _ k => XS.aload X5.here hx rfl (hb hby d2_52) rfl rfl k) ?_
  show Fin _ p e below s _ _ _ T5 (mkF m 54 #[.val (.ref a), .val (.ref b), .val (.int (0 : Int32)), .val (.int (2 : Int32)), .val .null, .val (.ref d3)] [(.ref d3), (.ref a)])
  obtain ⟨T6, h6, X6, e6, W6, st6⟩ := putF X5 hx hZ hown (host := "") (Or.inl (hw _ w_28)) Via.refl e5 F5_a_value ((A.keep Kq3).wr W5) (Or.inr ⟨(hw _ w_29), rfl, hnm⟩) (hw _ w_1) (ty := (.array .byte)) (by decide) rfl rfl (g := (mkF m 54 #[.val (.ref a), .val (.ref b), .val (.int (0 : Int32)), .val (.int (2 : Int32)), .val .null, .val (.ref d3)] [(.ref d3), (.ref a)])) rfl rfl (hb hby d2_54)
  refine Fin.go st6 ?_
  have N6 := Fr.snoc X6 N5 na
  have O6 := O5.wr W6 na
  have K6 := K5.wr W6 (Or.inl (List.mem_of_getElem? (i := 0) rfl))
  have F6_a_coder := (((F1.keep Kq3 nin0).same W5).other W6 (Or.inr (slot_ne (Or.inr (hw _ w_27)) (Or.inr (hw _ w_29)) (by decide) (t := .byte) (t' := (.array .byte)) (by decide) (by decide))))
  have V6_d3 := (V5_d3.other W6 (Ne.symm (Nat.ne_of_lt (Nat.lt_of_lt_of_le F2.lt zd3))))
  show Fin _ p e below s _ _ _ T6 (mkF m 57 #[.val (.ref a), .val (.ref b), .val (.int (0 : Int32)), .val (.int (2 : Int32)), .val .null, .val (.ref d3)] [])
  exact Fin.leaveN X6 e6 hlk (v := none) (fun _ => rfl) (by decide) (by decide) ⟨rfl, N6, K6, (((A.keep Kq3).wr W5).wr W6), F6_a_coder, d3, kd3, (F5_a_value.same W6), V6_d3, hzd3⟩ (fun fs hr => X6.returnOut hx hret (hb hby d2_57) hr)
set_option maxRecDepth 65536 in
set_option maxHeartbeats 40000000 in
theorem rmStr2 (l : Launch) (Z : State) (a0 : Array Value) (hw : ∀ d ∈ tables_1, d.before a0 Z = true) (n0 : Nat) (h0 : Heap) (O : Old Z n0 h0) (a b : Addr) (kb : ClassId) (x1 x2 : Int32) (cs : Int32) (S_cs : Sta Z Z.heap "java/lang/String" "COMPACT_STRINGS" "Z" (.int cs)) (hcs : ¬ cs = 0) (VB : Arv Z h0 b kb .char (2 : Int32) [(.int x1), (.int x2)] (.int (0 : Int32))) (A : Exa Z h0 a "java/lang/String") (F1 : Fld Z h0 a "java/lang/String" "coder" "B" (.int (0 : Int32))) (F2 : Fld Z h0 a "java/lang/String" "value" "[B" .null) (hp1 : ¬ (255 : Int32) < x1) (hp2 : ¬ (255 : Int32) < x2) (na : n0 ≤ a) (nba : b ≠ a) :
    ConW FrameEnd l Z [] (⟨"java/lang/String", "<init>", "([C)V"⟩ : MethodName) jdk_42_method_3_code 2 none ({ frames := 3, cells := 1, slots := 2, locals := 52 } : Room) #[(.ref a), (.ref b)] h0 (fun v h L => v = none ∧ Fr n0 L ∧ Keep h0 h [a] ∧ Exa Z h a "java/lang/String" ∧ Fld Z h a "java/lang/String" "coder" "B" (.int (0 : Int32)) ∧ ∃ d kd, Fld Z h a "java/lang/String" "value" "[B" (.ref d) ∧ Arv Z h d kd .byte (2 : Int32) [(.int ((Int32.toInt8 x1).toInt32)), (.int ((Int32.toInt8 x2).toInt32))] (.int (0 : Int32)) ∧ h0.size ≤ d) := by
  refine conOf (plainFor_of_name pn_java_lang_String) ?_
  intro p e s m below mth cc s₁ X0 hx hby hml hown hnm hret hlk hZ e0
  have N0 := Fr.nil n0
  have K0 := Keep.refl h0 ([a] : List Addr)
  refine Fin.came (castTop (t := _) (by first | (simp [entryFrame, mkF, argsToLocals, Value.category]; done) | rfl) (Steps.refl _) : Steps p.tables e below (s₁.setTop (entryFrame m #[(.ref a), (.ref b)] 2)) (s₁.setTop (mkF m 0 #[.val (.ref a), .val (.ref b)] []))) ?_
  show Fin _ p e below s _ _ _ s₁ (mkF m 0 #[.val (.ref a), .val (.ref b)] [])
  refine Fin.go (fun _ k => XS.aloadN X0.here hx rfl (hb hby d1_0) rfl rfl k) ?_
  show Fin _ p e below s _ _ _ s₁ (mkF m 1 #[.val (.ref a), .val (.ref b)] [(.ref a)])
  refine Fin.go (fun _ k => XS.aloadN X0.here hx rfl (hb hby d1_1) rfl rfl k) ?_
  show Fin _ p e below s _ _ _ s₁ (mkF m 2 #[.val (.ref a), .val (.ref b)] [(.ref b), (.ref a)])
  refine Fin.go (fun _ k => XS.iconst X0.here hx rfl (hb hby d1_2) k) ?_
  show Fin _ p e below s _ _ _ s₁ (mkF m 3 #[.val (.ref a), .val (.ref b)] [(.int (0 : Int32)), (.ref b), (.ref a)])
  refine Fin.go (fun _ k => XS.aloadN X0.here hx rfl (hb hby d1_3) rfl rfl k) ?_
  show Fin _ p e below s _ _ _ s₁ (mkF m 4 #[.val (.ref a), .val (.ref b)] [(.ref b), (.int (0 : Int32)), (.ref b), (.ref a)])
  obtain ⟨c1, B1, q1, S1, M1, H1, G1⟩ := id VB
  refine Fin.go (fun _ k => X0.arraylength hx (by rw [e0]; exact B1.1) (State.isArrayOf_alike hZ.alike B1.2.1) (g := (mkF m 4 #[.val (.ref a), .val (.ref b)] [(.ref b), (.int (0 : Int32)), (.ref b), (.ref a)])) rfl rfl (hb hby d1_4) _ k) ?_
  rw [len_of S1 M1]
  show Fin _ p e below s _ _ _ s₁ (mkF m 5 #[.val (.ref a), .val (.ref b)] [(.int (2 : Int32)), (.int (0 : Int32)), (.ref b), (.ref a)])
  refine Fin.go (fun _ k => XS.aconstNull X0.here hx rfl (hb hby d1_5) k) ?_
  show Fin _ p e below s _ _ _ s₁ (mkF m 6 #[.val (.ref a), .val (.ref b)] [.null, (.int (2 : Int32)), (.int (0 : Int32)), (.ref b), (.ref a)])
  obtain ⟨v2, T2, L2, X2, q2, st2⟩ := callCt X0 hx hZ (y := (⟨"java/lang/String", "<init>", "([CIILjava/lang/Void;)V"⟩ : MethodName)) rfl hown (hw _ w_7) (hw _ w_8) (hw _ w_2) (hw _ w_10) (by decide) (W := 0) (rmStrV2 l Z a0 hw n0 h0 O a b kb x1 x2 cs S_cs hcs VB A F1 F2 hp1 hp2 na nba) e0 (by decide) (by decide) (by decide) (by decide) (g := (mkF m 6 #[.val (.ref a), .val (.ref b)] [.null, (.int (2 : Int32)), (.int (0 : Int32)), (.ref b), (.ref a)])) rfl (by rw [hml]; rfl) (a := a) (argsL := [(.ref b), (.int (0 : Int32)), (.int (2 : Int32)), .null]) (rest := []) (lenOf pd_oACIILjava_lang_Void_cV rfl) rfl (by show 2 * 0 + _ ≤ _; exact Nat.le_of_eq rfl) (hb hby d1_6)
  obtain ⟨rfl, Nq2, Kq2, A2, C2, d2, kd2, F2, V2, zd2⟩ := q2
  have N2 := Fr.app N0 Nq2
  have O2 := O.keep Kq2 (allS na all0)
  have K2 := K0.trans Kq2 (allS (Or.inl (List.mem_of_getElem? (i := 0) rfl)) all0)
  refine Fin.go st2 ?_
  show Fin _ p e below s _ _ _ T2 (mkF m 9 #[.val (.ref a), .val (.ref b)] [])
  exact Fin.leaveN X2 (rfl : T2.heap = T2.heap) hlk (v := none) (fun _ => rfl) (by decide) (by decide) ⟨rfl, N2, K2, A2, C2, d2, kd2, F2, V2, zd2⟩ (fun fs hr => X2.returnOut hx hret (hb hby d1_9) hr)
set_option maxRecDepth 65536 in
set_option maxHeartbeats 40000000 in
theorem rmCmpB3 (l : Launch) (Z : State) (a0 : Array Value) (hw : ∀ d ∈ tables_1, d.before a0 Z = true) (n0 : Nat) (h0 : Heap) (O : Old Z n0 h0) (b d : Addr) (kb kd : ClassId) (x1 x2 x3 : Int32) (VB : Arv Z h0 b kb .char (3 : Int32) [(.int x1), (.int x2), (.int x3)] (.int (0 : Int32))) (VD : Arv Z h0 d kd .byte (3 : Int32) [(.int (0 : Int32)), (.int (0 : Int32)), (.int (0 : Int32))] (.int (0 : Int32))) (hp1 : ¬ (255 : Int32) < x1) (hp2 : ¬ (255 : Int32) < x2) (hp3 : ¬ (255 : Int32) < x3) (nd : n0 ≤ d) (nbd : b ≠ d) :
    ConW FrameEnd l Z [] (⟨"java/lang/StringUTF16", "compress", "([CI[BII)I"⟩ : MethodName) jdk_52_method_21_code 7 (some .int) ({ frames := 0, cells := 0, slots := 0, locals := 0 } : Room) #[(.ref b), (.int (0 : Int32)), (.ref d), (.int (0 : Int32)), (.int (3 : Int32))] h0 (fun v h L => v = some (.int (3 : Int32)) ∧ Fr n0 L ∧ Keep h0 h [d] ∧ Arv Z h d kd .byte (3 : Int32) [(.int ((Int32.toInt8 x1).toInt32)), (.int ((Int32.toInt8 x2).toInt32)), (.int ((Int32.toInt8 x3).toInt32))] (.int (0 : Int32))) := by
  refine conOf (plainFor_of_name pn_java_lang_StringUTF16) ?_
  intro p e s m below mth cc s₁ X0 hx hby hml hown hnm hret hlk hZ e0
  have N0 := Fr.nil n0
  have K0 := Keep.refl h0 ([d] : List Addr)
  refine Fin.came (castTop (t := _) (by first | (simp [entryFrame, mkF, argsToLocals, Value.category]; done) | rfl) (Steps.refl _) : Steps p.tables e below (s₁.setTop (entryFrame m #[(.ref b), (.int (0 : Int32)), (.ref d), (.int (0 : Int32)), (.int (3 : Int32))] 7)) (s₁.setTop (mkF m 0 #[.val (.ref b), .val (.int (0 : Int32)), .val (.ref d), .val (.int (0 : Int32)), .val (.int (3 : Int32)), .unset, .unset] []))) ?_
  show Fin _ p e below s _ _ _ s₁ (mkF m 0 #[.val (.ref b), .val (.int (0 : Int32)), .val (.ref d), .val (.int (0 : Int32)), .val (.int (3 : Int32)), .unset, .unset] [])
  refine Fin.go (fun _ k => XS.iconst X0.here hx rfl (hb hby d5_0) k) ?_
  show Fin _ p e below s _ _ _ s₁ (mkF m 1 #[.val (.ref b), .val (.int (0 : Int32)), .val (.ref d), .val (.int (0 : Int32)), .val (.int (3 : Int32)), .unset, .unset] [(.int (0 : Int32))])
  refine Fin.go (fun _ k => XS.istore X0.here hx rfl (hb hby d5_1) rfl (l' := #[.val (.ref b), .val (.int (0 : Int32)), .val (.ref d), .val (.int (0 : Int32)), .val (.int (3 : Int32)), .val (.int (0 : Int32)), .unset]) rfl k) ?_
  show Fin _ p e below s _ _ _ s₁ (mkF m 3 #[.val (.ref b), .val (.int (0 : Int32)), .val (.ref d), .val (.int (0 : Int32)), .val (.int (3 : Int32)), .val (.int (0 : Int32)), .unset] [])
  refine Fin.go (fun _ k => XS.iload X0.here hx rfl (hb hby d5_3) rfl k) ?_
  show Fin _ p e below s _ _ _ s₁ (mkF m 5 #[.val (.ref b), .val (.int (0 : Int32)), .val (.ref d), .val (.int (0 : Int32)), .val (.int (3 : Int32)), .val (.int (0 : Int32)), .unset] [(.int (0 : Int32))])
  refine Fin.go (fun _ k => XS.iload X0.here hx rfl (hb hby d5_5) rfl k) ?_
  show Fin _ p e below s _ _ _ s₁ (mkF m 7 #[.val (.ref b), .val (.int (0 : Int32)), .val (.ref d), .val (.int (0 : Int32)), .val (.int (3 : Int32)), .val (.int (0 : Int32)), .unset] [(.int (3 : Int32)), (.int (0 : Int32))])
  refine Fin.go (fun _ k => XS.icmpNo X0.here hx rfl (hb hby d5_7) rfl (XT.ii_ge_f (by decide)) k) ?_
  show Fin _ p e below s _ _ _ s₁ (mkF m 10 #[.val (.ref b), .val (.int (0 : Int32)), .val (.ref d), .val (.int (0 : Int32)), .val (.int (3 : Int32)), .val (.int (0 : Int32)), .unset] [])
  refine Fin.go (fun _ k => XS.aloadN X0.here hx rfl (hb hby d5_10) rfl rfl k) ?_
  show Fin _ p e below s _ _ _ s₁ (mkF m 11 #[.val (.ref b), .val (.int (0 : Int32)), .val (.ref d), .val (.int (0 : Int32)), .val (.int (3 : Int32)), .val (.int (0 : Int32)), .unset] [(.ref b)])
  refine Fin.go (fun _ k => XS.iloadN X0.here hx rfl (hb hby d5_11) rfl k) ?_
  show Fin _ p e below s _ _ _ s₁ (mkF m 12 #[.val (.ref b), .val (.int (0 : Int32)), .val (.ref d), .val (.int (0 : Int32)), .val (.int (3 : Int32)), .val (.int (0 : Int32)), .unset] [(.int (0 : Int32)), (.ref b)])
  obtain ⟨c1, B1, q1, S1, M1, H1, G1⟩ := id VB
  have i1 := inb_of S1 ⟨(by decide : ¬ ((0 : Int32) < (0 : Int32))), (by decide : (0 : Int32) < (3 : Int32))⟩
  refine Fin.go (fun _ k => X0.caload hx (j := (0 : Int32)) (v := (.int x1)) (by rw [e0]; exact B1.1) (State.isArrayOf_alike hZ.alike B1.2.1) B1.2.2 i1 (Has.at H1 i1 rfl) (g := (mkF m 12 #[.val (.ref b), .val (.int (0 : Int32)), .val (.ref d), .val (.int (0 : Int32)), .val (.int (3 : Int32)), .val (.int (0 : Int32)), .unset] [(.int (0 : Int32)), (.ref b)])) rfl rfl (hb hby d5_12) _ k) ?_
  show Fin _ p e below s _ _ _ s₁ (mkF m 13 #[.val (.ref b), .val (.int (0 : Int32)), .val (.ref d), .val (.int (0 : Int32)), .val (.int (3 : Int32)), .val (.int (0 : Int32)), .unset] [(.int x1)])
  refine Fin.go (fun _ k => XS.istore X0.here hx rfl (hb hby d5_13) rfl (l' := #[.val (.ref b), .val (.int (0 : Int32)), .val (.ref d), .val (.int (0 : Int32)), .val (.int (3 : Int32)), .val (.int (0 : Int32)), .val (.int x1)]) rfl k) ?_
  show Fin _ p e below s _ _ _ s₁ (mkF m 15 #[.val (.ref b), .val (.int (0 : Int32)), .val (.ref d), .val (.int (0 : Int32)), .val (.int (3 : Int32)), .val (.int (0 : Int32)), .val (.int x1)] [])
  refine Fin.go (fun _ k => XS.iload X0.here hx rfl (hb hby d5_15) rfl k) ?_
  show Fin _ p e below s _ _ _ s₁ (mkF m 17 #[.val (.ref b), .val (.int (0 : Int32)), .val (.ref d), .val (.int (0 : Int32)), .val (.int (3 : Int32)), .val (.int (0 : Int32)), .val (.int x1)] [(.int x1)])
  refine Fin.go (fun _ k => XS.sipush X0.here hx rfl (hb hby d5_17) k) ?_
  show Fin _ p e below s _ _ _ s₁ (mkF m 20 #[.val (.ref b), .val (.int (0 : Int32)), .val (.ref d), .val (.int (0 : Int32)), .val (.int (3 : Int32)), .val (.int (0 : Int32)), .val (.int x1)] [(.int (255 : Int32)), (.int x1)])
  refine Fin.go (fun _ k => XS.icmpYes X0.here hx rfl (pc0 := 20) (pc' := 26) rfl (hb hby d5_20) rfl (XT.ii_le_t hp1) (by decide) (by decide) k) ?_
  show Fin _ p e below s _ _ _ s₁ (mkF m 26 #[.val (.ref b), .val (.int (0 : Int32)), .val (.ref d), .val (.int (0 : Int32)), .val (.int (3 : Int32)), .val (.int (0 : Int32)), .val (.int x1)] [])
  refine Fin.go (fun _ k => XS.aloadN X0.here hx rfl (hb hby d5_26) rfl rfl k) ?_
  show Fin _ p e below s _ _ _ s₁ (mkF m 27 #[.val (.ref b), .val (.int (0 : Int32)), .val (.ref d), .val (.int (0 : Int32)), .val (.int (3 : Int32)), .val (.int (0 : Int32)), .val (.int x1)] [(.ref d)])
  refine Fin.go (fun _ k => XS.iloadN X0.here hx rfl (hb hby d5_27) rfl k) ?_
  show Fin _ p e below s _ _ _ s₁ (mkF m 28 #[.val (.ref b), .val (.int (0 : Int32)), .val (.ref d), .val (.int (0 : Int32)), .val (.int (3 : Int32)), .val (.int (0 : Int32)), .val (.int x1)] [(.int (0 : Int32)), (.ref d)])
  refine Fin.go (fun _ k => XS.iload X0.here hx rfl (hb hby d5_28) rfl k) ?_
  show Fin _ p e below s _ _ _ s₁ (mkF m 30 #[.val (.ref b), .val (.int (0 : Int32)), .val (.ref d), .val (.int (0 : Int32)), .val (.int (3 : Int32)), .val (.int (0 : Int32)), .val (.int x1)] [(.int x1), (.int (0 : Int32)), (.ref d)])
  refine Fin.go (fun _ k => XT.i2b X0.here hx rfl (hb hby d5_30) rfl k) ?_
  show Fin _ p e below s _ _ _ s₁ (mkF m 31 #[.val (.ref b), .val (.int (0 : Int32)), .val (.ref d), .val (.int (0 : Int32)), .val (.int (3 : Int32)), .val (.int (0 : Int32)), .val (.int x1)] [(.int ((Int32.toInt8 x1).toInt32)), (.int (0 : Int32)), (.ref d)])
  obtain ⟨c2, B2, q2, S2, M2, H2, G2⟩ := id VD
  obtain ⟨T2, h2, X2, e2, W2, st2⟩ := stB X0 hx hZ e0 B2 (j := (0 : Int32)) (inb_of S2 ⟨(by decide : ¬ ((0 : Int32) < (0 : Int32))), (by decide : (0 : Int32) < (3 : Int32))⟩) (g := (mkF m 31 #[.val (.ref b), .val (.int (0 : Int32)), .val (.ref d), .val (.int (0 : Int32)), .val (.int (3 : Int32)), .val (.int (0 : Int32)), .val (.int x1)] [(.int ((Int32.toInt8 x1).toInt32)), (.int (0 : Int32)), (.ref d)])) rfl rfl (hb hby d5_31)
  refine Fin.go st2 ?_
  have V2 : Arv Z h2 d kd .byte (3 : Int32) [(.int ((Int32.toInt8 x1).toInt32)), (.int (0 : Int32)), (.int (0 : Int32))] (.int (0 : Int32)) := (by have q : Arv Z h2 d kd .byte (3 : Int32) [(.int (nar .byte ((Int32.toInt8 x1).toInt32))), (.int (0 : Int32)), (.int (0 : Int32))] (.int (0 : Int32)) := (Arv.set B2 q2 S2 M2 H2 G2 (fits_nar_byte _) W2 0 rfl (Nat.le_of_ble_eq_true rfl)); rwa [nar_b8] at q)
  have N2 := Fr.snoc X2 N0 nd
  have O2 := O.wr W2 nd
  have K2 := K0.wr W2 (Or.inl (List.mem_of_getElem? (i := 0) rfl))
  show Fin _ p e below s _ _ _ T2 (mkF m 32 #[.val (.ref b), .val (.int (0 : Int32)), .val (.ref d), .val (.int (0 : Int32)), .val (.int (3 : Int32)), .val (.int (0 : Int32)), .val (.int x1)] [])
  refine Fin.go (fun _ k => XS.iinc X2.here hx rfl (hb hby d5_32) rfl (l' := #[.val (.ref b), .val (.int ((0 : Int32) + (1 : Int32))), .val (.ref d), .val (.int (0 : Int32)), .val (.int (3 : Int32)), .val (.int (0 : Int32)), .val (.int x1)]) rfl k) ?_
  show Fin _ p e below s _ _ _ T2 (mkF m 35 #[.val (.ref b), .val (.int ((0 : Int32) + (1 : Int32))), .val (.ref d), .val (.int (0 : Int32)), .val (.int (3 : Int32)), .val (.int (0 : Int32)), .val (.int x1)] [])
  refine Fin.go (fun _ k => XS.iinc X2.here hx rfl (hb hby d5_35) rfl (l' := #[.val (.ref b), .val (.int ((0 : Int32) + (1 : Int32))), .val (.ref d), .val (.int ((0 : Int32) + (1 : Int32))), .val (.int (3 : Int32)), .val (.int (0 : Int32)), .val (.int x1)]) rfl k) ?_
  show Fin _ p e below s _ _ _ T2 (mkF m 38 #[.val (.ref b), .val (.int ((0 : Int32) + (1 : Int32))), .val (.ref d), .val (.int ((0 : Int32) + (1 : Int32))), .val (.int (3 : Int32)), .val (.int (0 : Int32)), .val (.int x1)] [])
  refine Fin.go (fun _ k => XS.iinc X2.here hx rfl (hb hby d5_38) rfl (l' := #[.val (.ref b), .val (.int ((0 : Int32) + (1 : Int32))), .val (.ref d), .val (.int ((0 : Int32) + (1 : Int32))), .val (.int (3 : Int32)), .val (.int ((0 : Int32) + (1 : Int32))), .val (.int x1)]) rfl k) ?_
  show Fin _ p e below s _ _ _ T2 (mkF m 41 #[.val (.ref b), .val (.int ((0 : Int32) + (1 : Int32))), .val (.ref d), .val (.int ((0 : Int32) + (1 : Int32))), .val (.int (3 : Int32)), .val (.int ((0 : Int32) + (1 : Int32))), .val (.int x1)] [])
  refine Fin.go (fun _ k => XS.goto X2.here hx rfl (pc0 := 41) (pc' := 3) rfl (hb hby d5_41) (by decide) (by decide) k) ?_
  show Fin _ p e below s _ _ _ T2 (mkF m 3 #[.val (.ref b), .val (.int ((0 : Int32) + (1 : Int32))), .val (.ref d), .val (.int ((0 : Int32) + (1 : Int32))), .val (.int (3 : Int32)), .val (.int ((0 : Int32) + (1 : Int32))), .val (.int x1)] [])
  refine Fin.go (fun _ k => XS.iload X2.here hx rfl (hb hby d5_3) rfl k) ?_
  show Fin _ p e below s _ _ _ T2 (mkF m 5 #[.val (.ref b), .val (.int ((0 : Int32) + (1 : Int32))), .val (.ref d), .val (.int ((0 : Int32) + (1 : Int32))), .val (.int (3 : Int32)), .val (.int ((0 : Int32) + (1 : Int32))), .val (.int x1)] [(.int ((0 : Int32) + (1 : Int32)))])
  refine Fin.go (fun _ k => XS.iload X2.here hx rfl (hb hby d5_5) rfl k) ?_
  show Fin _ p e below s _ _ _ T2 (mkF m 7 #[.val (.ref b), .val (.int ((0 : Int32) + (1 : Int32))), .val (.ref d), .val (.int ((0 : Int32) + (1 : Int32))), .val (.int (3 : Int32)), .val (.int ((0 : Int32) + (1 : Int32))), .val (.int x1)] [(.int (3 : Int32)), (.int ((0 : Int32) + (1 : Int32)))])
  refine Fin.go (fun _ k => XS.icmpNo X2.here hx rfl (hb hby d5_7) rfl (XT.ii_ge_f (by decide)) k) ?_
  show Fin _ p e below s _ _ _ T2 (mkF m 10 #[.val (.ref b), .val (.int ((0 : Int32) + (1 : Int32))), .val (.ref d), .val (.int ((0 : Int32) + (1 : Int32))), .val (.int (3 : Int32)), .val (.int ((0 : Int32) + (1 : Int32))), .val (.int x1)] [])
  refine Fin.go (fun _ k => XS.aloadN X2.here hx rfl (hb hby d5_10) rfl rfl k) ?_
  show Fin _ p e below s _ _ _ T2 (mkF m 11 #[.val (.ref b), .val (.int ((0 : Int32) + (1 : Int32))), .val (.ref d), .val (.int ((0 : Int32) + (1 : Int32))), .val (.int (3 : Int32)), .val (.int ((0 : Int32) + (1 : Int32))), .val (.int x1)] [(.ref b)])
  refine Fin.go (fun _ k => XS.iloadN X2.here hx rfl (hb hby d5_11) rfl k) ?_
  show Fin _ p e below s _ _ _ T2 (mkF m 12 #[.val (.ref b), .val (.int ((0 : Int32) + (1 : Int32))), .val (.ref d), .val (.int ((0 : Int32) + (1 : Int32))), .val (.int (3 : Int32)), .val (.int ((0 : Int32) + (1 : Int32))), .val (.int x1)] [(.int ((0 : Int32) + (1 : Int32))), (.ref b)])
  obtain ⟨c3, B3, q3, S3, M3, H3, G3⟩ := id (VB.other W2 nbd)
  have i3 := inb_of S3 ⟨(by decide : ¬ (((0 : Int32) + (1 : Int32)) < (0 : Int32))), (by decide : ((0 : Int32) + (1 : Int32)) < (3 : Int32))⟩
  refine Fin.go (fun _ k => X2.caload hx (j := ((0 : Int32) + (1 : Int32))) (v := (.int x2)) (by rw [e2]; exact B3.1) (State.isArrayOf_alike hZ.alike B3.2.1) B3.2.2 i3 (Has.at H3 i3 rfl) (g := (mkF m 12 #[.val (.ref b), .val (.int ((0 : Int32) + (1 : Int32))), .val (.ref d), .val (.int ((0 : Int32) + (1 : Int32))), .val (.int (3 : Int32)), .val (.int ((0 : Int32) + (1 : Int32))), .val (.int x1)] [(.int ((0 : Int32) + (1 : Int32))), (.ref b)])) rfl rfl (hb hby d5_12) _ k) ?_
  show Fin _ p e below s _ _ _ T2 (mkF m 13 #[.val (.ref b), .val (.int ((0 : Int32) + (1 : Int32))), .val (.ref d), .val (.int ((0 : Int32) + (1 : Int32))), .val (.int (3 : Int32)), .val (.int ((0 : Int32) + (1 : Int32))), .val (.int x1)] [(.int x2)])
  refine Fin.go (fun _ k => XS.istore X2.here hx rfl (hb hby d5_13) rfl (l' := #[.val (.ref b), .val (.int ((0 : Int32) + (1 : Int32))), .val (.ref d), .val (.int ((0 : Int32) + (1 : Int32))), .val (.int (3 : Int32)), .val (.int ((0 : Int32) + (1 : Int32))), .val (.int x2)]) rfl k) ?_
  show Fin _ p e below s _ _ _ T2 (mkF m 15 #[.val (.ref b), .val (.int ((0 : Int32) + (1 : Int32))), .val (.ref d), .val (.int ((0 : Int32) + (1 : Int32))), .val (.int (3 : Int32)), .val (.int ((0 : Int32) + (1 : Int32))), .val (.int x2)] [])
  refine Fin.go (fun _ k => XS.iload X2.here hx rfl (hb hby d5_15) rfl k) ?_
  show Fin _ p e below s _ _ _ T2 (mkF m 17 #[.val (.ref b), .val (.int ((0 : Int32) + (1 : Int32))), .val (.ref d), .val (.int ((0 : Int32) + (1 : Int32))), .val (.int (3 : Int32)), .val (.int ((0 : Int32) + (1 : Int32))), .val (.int x2)] [(.int x2)])
  refine Fin.go (fun _ k => XS.sipush X2.here hx rfl (hb hby d5_17) k) ?_
  show Fin _ p e below s _ _ _ T2 (mkF m 20 #[.val (.ref b), .val (.int ((0 : Int32) + (1 : Int32))), .val (.ref d), .val (.int ((0 : Int32) + (1 : Int32))), .val (.int (3 : Int32)), .val (.int ((0 : Int32) + (1 : Int32))), .val (.int x2)] [(.int (255 : Int32)), (.int x2)])
  refine Fin.go (fun _ k => XS.icmpYes X2.here hx rfl (pc0 := 20) (pc' := 26) rfl (hb hby d5_20) rfl (XT.ii_le_t hp2) (by decide) (by decide) k) ?_
  show Fin _ p e below s _ _ _ T2 (mkF m 26 #[.val (.ref b), .val (.int ((0 : Int32) + (1 : Int32))), .val (.ref d), .val (.int ((0 : Int32) + (1 : Int32))), .val (.int (3 : Int32)), .val (.int ((0 : Int32) + (1 : Int32))), .val (.int x2)] [])
  refine Fin.go (fun _ k => XS.aloadN X2.here hx rfl (hb hby d5_26) rfl rfl k) ?_
  show Fin _ p e below s _ _ _ T2 (mkF m 27 #[.val (.ref b), .val (.int ((0 : Int32) + (1 : Int32))), .val (.ref d), .val (.int ((0 : Int32) + (1 : Int32))), .val (.int (3 : Int32)), .val (.int ((0 : Int32) + (1 : Int32))), .val (.int x2)] [(.ref d)])
  refine Fin.go (fun _ k => XS.iloadN X2.here hx rfl (hb hby d5_27) rfl k) ?_
  show Fin _ p e below s _ _ _ T2 (mkF m 28 #[.val (.ref b), .val (.int ((0 : Int32) + (1 : Int32))), .val (.ref d), .val (.int ((0 : Int32) + (1 : Int32))), .val (.int (3 : Int32)), .val (.int ((0 : Int32) + (1 : Int32))), .val (.int x2)] [(.int ((0 : Int32) + (1 : Int32))), (.ref d)])
  refine Fin.go (fun _ k => XS.iload X2.here hx rfl (hb hby d5_28) rfl k) ?_
  show Fin _ p e below s _ _ _ T2 (mkF m 30 #[.val (.ref b), .val (.int ((0 : Int32) + (1 : Int32))), .val (.ref d), .val (.int ((0 : Int32) + (1 : Int32))), .val (.int (3 : Int32)), .val (.int ((0 : Int32) + (1 : Int32))), .val (.int x2)] [(.int x2), (.int ((0 : Int32) + (1 : Int32))), (.ref d)])
  refine Fin.go (fun _ k => XT.i2b X2.here hx rfl (hb hby d5_30) rfl k) ?_
  show Fin _ p e below s _ _ _ T2 (mkF m 31 #[.val (.ref b), .val (.int ((0 : Int32) + (1 : Int32))), .val (.ref d), .val (.int ((0 : Int32) + (1 : Int32))), .val (.int (3 : Int32)), .val (.int ((0 : Int32) + (1 : Int32))), .val (.int x2)] [(.int ((Int32.toInt8 x2).toInt32)), (.int ((0 : Int32) + (1 : Int32))), (.ref d)])
  obtain ⟨c4, B4, q4, S4, M4, H4, G4⟩ := id V2
  obtain ⟨T4, h4, X4, e4, W4, st4⟩ := stB X2 hx hZ e2 B4 (j := ((0 : Int32) + (1 : Int32))) (inb_of S4 ⟨(by decide : ¬ (((0 : Int32) + (1 : Int32)) < (0 : Int32))), (by decide : ((0 : Int32) + (1 : Int32)) < (3 : Int32))⟩) (g := (mkF m 31 #[.val (.ref b), .val (.int ((0 : Int32) + (1 : Int32))), .val (.ref d), .val (.int ((0 : Int32) + (1 : Int32))), .val (.int (3 : Int32)), .val (.int ((0 : Int32) + (1 : Int32))), .val (.int x2)] [(.int ((Int32.toInt8 x2).toInt32)), (.int ((0 : Int32) + (1 : Int32))), (.ref d)])) rfl rfl (hb hby d5_31)
  refine Fin.go st4 ?_
  have V4 : Arv Z h4 d kd .byte (3 : Int32) [(.int ((Int32.toInt8 x1).toInt32)), (.int ((Int32.toInt8 x2).toInt32)), (.int (0 : Int32))] (.int (0 : Int32)) := (by have q : Arv Z h4 d kd .byte (3 : Int32) [(.int ((Int32.toInt8 x1).toInt32)), (.int (nar .byte ((Int32.toInt8 x2).toInt32))), (.int (0 : Int32))] (.int (0 : Int32)) := (Arv.set B4 q4 S4 M4 H4 G4 (fits_nar_byte _) W4 1 rfl (Nat.le_of_ble_eq_true rfl)); rwa [nar_b8] at q)
  have N4 := Fr.snoc X4 N2 nd
  have O4 := O2.wr W4 nd
  have K4 := K2.wr W4 (Or.inl (List.mem_of_getElem? (i := 0) rfl))
  show Fin _ p e below s _ _ _ T4 (mkF m 32 #[.val (.ref b), .val (.int ((0 : Int32) + (1 : Int32))), .val (.ref d), .val (.int ((0 : Int32) + (1 : Int32))), .val (.int (3 : Int32)), .val (.int ((0 : Int32) + (1 : Int32))), .val (.int x2)] [])
  refine Fin.go (fun _ k => XS.iinc X4.here hx rfl (hb hby d5_32) rfl (l' := #[.val (.ref b), .val (.int (((0 : Int32) + (1 : Int32)) + (1 : Int32))), .val (.ref d), .val (.int ((0 : Int32) + (1 : Int32))), .val (.int (3 : Int32)), .val (.int ((0 : Int32) + (1 : Int32))), .val (.int x2)]) rfl k) ?_
  show Fin _ p e below s _ _ _ T4 (mkF m 35 #[.val (.ref b), .val (.int (((0 : Int32) + (1 : Int32)) + (1 : Int32))), .val (.ref d), .val (.int ((0 : Int32) + (1 : Int32))), .val (.int (3 : Int32)), .val (.int ((0 : Int32) + (1 : Int32))), .val (.int x2)] [])
  refine Fin.go (fun _ k => XS.iinc X4.here hx rfl (hb hby d5_35) rfl (l' := #[.val (.ref b), .val (.int (((0 : Int32) + (1 : Int32)) + (1 : Int32))), .val (.ref d), .val (.int (((0 : Int32) + (1 : Int32)) + (1 : Int32))), .val (.int (3 : Int32)), .val (.int ((0 : Int32) + (1 : Int32))), .val (.int x2)]) rfl k) ?_
  show Fin _ p e below s _ _ _ T4 (mkF m 38 #[.val (.ref b), .val (.int (((0 : Int32) + (1 : Int32)) + (1 : Int32))), .val (.ref d), .val (.int (((0 : Int32) + (1 : Int32)) + (1 : Int32))), .val (.int (3 : Int32)), .val (.int ((0 : Int32) + (1 : Int32))), .val (.int x2)] [])
  refine Fin.go (fun _ k => XS.iinc X4.here hx rfl (hb hby d5_38) rfl (l' := #[.val (.ref b), .val (.int (((0 : Int32) + (1 : Int32)) + (1 : Int32))), .val (.ref d), .val (.int (((0 : Int32) + (1 : Int32)) + (1 : Int32))), .val (.int (3 : Int32)), .val (.int (((0 : Int32) + (1 : Int32)) + (1 : Int32))), .val (.int x2)]) rfl k) ?_
  show Fin _ p e below s _ _ _ T4 (mkF m 41 #[.val (.ref b), .val (.int (((0 : Int32) + (1 : Int32)) + (1 : Int32))), .val (.ref d), .val (.int (((0 : Int32) + (1 : Int32)) + (1 : Int32))), .val (.int (3 : Int32)), .val (.int (((0 : Int32) + (1 : Int32)) + (1 : Int32))), .val (.int x2)] [])
  refine Fin.go (fun _ k => XS.goto X4.here hx rfl (pc0 := 41) (pc' := 3) rfl (hb hby d5_41) (by decide) (by decide) k) ?_
  show Fin _ p e below s _ _ _ T4 (mkF m 3 #[.val (.ref b), .val (.int (((0 : Int32) + (1 : Int32)) + (1 : Int32))), .val (.ref d), .val (.int (((0 : Int32) + (1 : Int32)) + (1 : Int32))), .val (.int (3 : Int32)), .val (.int (((0 : Int32) + (1 : Int32)) + (1 : Int32))), .val (.int x2)] [])
  refine Fin.go (fun _ k => XS.iload X4.here hx rfl (hb hby d5_3) rfl k) ?_
  show Fin _ p e below s _ _ _ T4 (mkF m 5 #[.val (.ref b), .val (.int (((0 : Int32) + (1 : Int32)) + (1 : Int32))), .val (.ref d), .val (.int (((0 : Int32) + (1 : Int32)) + (1 : Int32))), .val (.int (3 : Int32)), .val (.int (((0 : Int32) + (1 : Int32)) + (1 : Int32))), .val (.int x2)] [(.int (((0 : Int32) + (1 : Int32)) + (1 : Int32)))])
  refine Fin.go (fun _ k => XS.iload X4.here hx rfl (hb hby d5_5) rfl k) ?_
  show Fin _ p e below s _ _ _ T4 (mkF m 7 #[.val (.ref b), .val (.int (((0 : Int32) + (1 : Int32)) + (1 : Int32))), .val (.ref d), .val (.int (((0 : Int32) + (1 : Int32)) + (1 : Int32))), .val (.int (3 : Int32)), .val (.int (((0 : Int32) + (1 : Int32)) + (1 : Int32))), .val (.int x2)] [(.int (3 : Int32)), (.int (((0 : Int32) + (1 : Int32)) + (1 : Int32)))])
  refine Fin.go (fun _ k => XS.icmpNo X4.here hx rfl (hb hby d5_7) rfl (XT.ii_ge_f (by decide)) k) ?_
  show Fin _ p e below s _ _ _ T4 (mkF m 10 #[.val (.ref b), .val (.int (((0 : Int32) + (1 : Int32)) + (1 : Int32))), .val (.ref d), .val (.int (((0 : Int32) + (1 : Int32)) + (1 : Int32))), .val (.int (3 : Int32)), .val (.int (((0 : Int32) + (1 : Int32)) + (1 : Int32))), .val (.int x2)] [])
  refine Fin.go (fun _ k => XS.aloadN X4.here hx rfl (hb hby d5_10) rfl rfl k) ?_
  show Fin _ p e below s _ _ _ T4 (mkF m 11 #[.val (.ref b), .val (.int (((0 : Int32) + (1 : Int32)) + (1 : Int32))), .val (.ref d), .val (.int (((0 : Int32) + (1 : Int32)) + (1 : Int32))), .val (.int (3 : Int32)), .val (.int (((0 : Int32) + (1 : Int32)) + (1 : Int32))), .val (.int x2)] [(.ref b)])
  refine Fin.go (fun _ k => XS.iloadN X4.here hx rfl (hb hby d5_11) rfl k) ?_
  show Fin _ p e below s _ _ _ T4 (mkF m 12 #[.val (.ref b), .val (.int (((0 : Int32) + (1 : Int32)) + (1 : Int32))), .val (.ref d), .val (.int (((0 : Int32) + (1 : Int32)) + (1 : Int32))), .val (.int (3 : Int32)), .val (.int (((0 : Int32) + (1 : Int32)) + (1 : Int32))), .val (.int x2)] [(.int (((0 : Int32) + (1 : Int32)) + (1 : Int32))), (.ref b)])
  obtain ⟨c5, B5, q5, S5, M5, H5, G5⟩ := id ((VB.other W2 nbd).other W4 nbd)
  have i5 := inb_of S5 ⟨(by decide : ¬ ((((0 : Int32) + (1 : Int32)) + (1 : Int32)) < (0 : Int32))), (by decide : (((0 : Int32) + (1 : Int32)) + (1 : Int32)) < (3 : Int32))⟩
  refine Fin.go (fun _ k => X4.caload hx (j := (((0 : Int32) + (1 : Int32)) + (1 : Int32))) (v := (.int x3)) (by rw [e4]; exact B5.1) (State.isArrayOf_alike hZ.alike B5.2.1) B5.2.2 i5 (Has.at H5 i5 rfl) (g := (mkF m 12 #[.val (.ref b), .val (.int (((0 : Int32) + (1 : Int32)) + (1 : Int32))), .val (.ref d), .val (.int (((0 : Int32) + (1 : Int32)) + (1 : Int32))), .val (.int (3 : Int32)), .val (.int (((0 : Int32) + (1 : Int32)) + (1 : Int32))), .val (.int x2)] [(.int (((0 : Int32) + (1 : Int32)) + (1 : Int32))), (.ref b)])) rfl rfl (hb hby d5_12) _ k) ?_
  show Fin _ p e below s _ _ _ T4 (mkF m 13 #[.val (.ref b), .val (.int (((0 : Int32) + (1 : Int32)) + (1 : Int32))), .val (.ref d), .val (.int (((0 : Int32) + (1 : Int32)) + (1 : Int32))), .val (.int (3 : Int32)), .val (.int (((0 : Int32) + (1 : Int32)) + (1 : Int32))), .val (.int x2)] [(.int x3)])
  refine Fin.go (fun _ k => XS.istore X4.here hx rfl (hb hby d5_13) rfl (l' := #[.val (.ref b), .val (.int (((0 : Int32) + (1 : Int32)) + (1 : Int32))), .val (.ref d), .val (.int (((0 : Int32) + (1 : Int32)) + (1 : Int32))), .val (.int (3 : Int32)), .val (.int (((0 : Int32) + (1 : Int32)) + (1 : Int32))), .val (.int x3)]) rfl k) ?_
  show Fin _ p e below s _ _ _ T4 (mkF m 15 #[.val (.ref b), .val (.int (((0 : Int32) + (1 : Int32)) + (1 : Int32))), .val (.ref d), .val (.int (((0 : Int32) + (1 : Int32)) + (1 : Int32))), .val (.int (3 : Int32)), .val (.int (((0 : Int32) + (1 : Int32)) + (1 : Int32))), .val (.int x3)] [])
  refine Fin.go (fun _ k => XS.iload X4.here hx rfl (hb hby d5_15) rfl k) ?_
  show Fin _ p e below s _ _ _ T4 (mkF m 17 #[.val (.ref b), .val (.int (((0 : Int32) + (1 : Int32)) + (1 : Int32))), .val (.ref d), .val (.int (((0 : Int32) + (1 : Int32)) + (1 : Int32))), .val (.int (3 : Int32)), .val (.int (((0 : Int32) + (1 : Int32)) + (1 : Int32))), .val (.int x3)] [(.int x3)])
  refine Fin.go (fun _ k => XS.sipush X4.here hx rfl (hb hby d5_17) k) ?_
  show Fin _ p e below s _ _ _ T4 (mkF m 20 #[.val (.ref b), .val (.int (((0 : Int32) + (1 : Int32)) + (1 : Int32))), .val (.ref d), .val (.int (((0 : Int32) + (1 : Int32)) + (1 : Int32))), .val (.int (3 : Int32)), .val (.int (((0 : Int32) + (1 : Int32)) + (1 : Int32))), .val (.int x3)] [(.int (255 : Int32)), (.int x3)])
  refine Fin.go (fun _ k => XS.icmpYes X4.here hx rfl (pc0 := 20) (pc' := 26) rfl (hb hby d5_20) rfl (XT.ii_le_t hp3) (by decide) (by decide) k) ?_
  show Fin _ p e below s _ _ _ T4 (mkF m 26 #[.val (.ref b), .val (.int (((0 : Int32) + (1 : Int32)) + (1 : Int32))), .val (.ref d), .val (.int (((0 : Int32) + (1 : Int32)) + (1 : Int32))), .val (.int (3 : Int32)), .val (.int (((0 : Int32) + (1 : Int32)) + (1 : Int32))), .val (.int x3)] [])
  refine Fin.go (fun _ k => XS.aloadN X4.here hx rfl (hb hby d5_26) rfl rfl k) ?_
  show Fin _ p e below s _ _ _ T4 (mkF m 27 #[.val (.ref b), .val (.int (((0 : Int32) + (1 : Int32)) + (1 : Int32))), .val (.ref d), .val (.int (((0 : Int32) + (1 : Int32)) + (1 : Int32))), .val (.int (3 : Int32)), .val (.int (((0 : Int32) + (1 : Int32)) + (1 : Int32))), .val (.int x3)] [(.ref d)])
  refine Fin.go (fun _ k => XS.iloadN X4.here hx rfl (hb hby d5_27) rfl k) ?_
  show Fin _ p e below s _ _ _ T4 (mkF m 28 #[.val (.ref b), .val (.int (((0 : Int32) + (1 : Int32)) + (1 : Int32))), .val (.ref d), .val (.int (((0 : Int32) + (1 : Int32)) + (1 : Int32))), .val (.int (3 : Int32)), .val (.int (((0 : Int32) + (1 : Int32)) + (1 : Int32))), .val (.int x3)] [(.int (((0 : Int32) + (1 : Int32)) + (1 : Int32))), (.ref d)])
  refine Fin.go (fun _ k => XS.iload X4.here hx rfl (hb hby d5_28) rfl k) ?_
  show Fin _ p e below s _ _ _ T4 (mkF m 30 #[.val (.ref b), .val (.int (((0 : Int32) + (1 : Int32)) + (1 : Int32))), .val (.ref d), .val (.int (((0 : Int32) + (1 : Int32)) + (1 : Int32))), .val (.int (3 : Int32)), .val (.int (((0 : Int32) + (1 : Int32)) + (1 : Int32))), .val (.int x3)] [(.int x3), (.int (((0 : Int32) + (1 : Int32)) + (1 : Int32))), (.ref d)])
  refine Fin.go (fun _ k => XT.i2b X4.here hx rfl (hb hby d5_30) rfl k) ?_
  show Fin _ p e below s _ _ _ T4 (mkF m 31 #[.val (.ref b), .val (.int (((0 : Int32) + (1 : Int32)) + (1 : Int32))), .val (.ref d), .val (.int (((0 : Int32) + (1 : Int32)) + (1 : Int32))), .val (.int (3 : Int32)), .val (.int (((0 : Int32) + (1 : Int32)) + (1 : Int32))), .val (.int x3)] [(.int ((Int32.toInt8 x3).toInt32)), (.int (((0 : Int32) + (1 : Int32)) + (1 : Int32))), (.ref d)])
  obtain ⟨c6, B6, q6, S6, M6, H6, G6⟩ := id V4
  obtain ⟨T6, h6, X6, e6, W6, st6⟩ := stB X4 hx hZ e4 B6 (j := (((0 : Int32) + (1 : Int32)) + (1 : Int32))) (inb_of S6 ⟨(by decide : ¬ ((((0 : Int32) + (1 : Int32)) + (1 : Int32)) < (0 : Int32))), (by decide : (((0 : Int32) + (1 : Int32)) + (1 : Int32)) < (3 : Int32))⟩) (g := (mkF m 31 #[.val (.ref b), .val (.int (((0 : Int32) + (1 : Int32)) + (1 : Int32))), .val (.ref d), .val (.int (((0 : Int32) + (1 : Int32)) + (1 : Int32))), .val (.int (3 : Int32)), .val (.int (((0 : Int32) + (1 : Int32)) + (1 : Int32))), .val (.int x3)] [(.int ((Int32.toInt8 x3).toInt32)), (.int (((0 : Int32) + (1 : Int32)) + (1 : Int32))), (.ref d)])) rfl rfl (hb hby d5_31)
  refine Fin.go st6 ?_
  have V6 : Arv Z h6 d kd .byte (3 : Int32) [(.int ((Int32.toInt8 x1).toInt32)), (.int ((Int32.toInt8 x2).toInt32)), (.int ((Int32.toInt8 x3).toInt32))] (.int (0 : Int32)) := (by have q : Arv Z h6 d kd .byte (3 : Int32) [(.int ((Int32.toInt8 x1).toInt32)), (.int ((Int32.toInt8 x2).toInt32)), (.int (nar .byte ((Int32.toInt8 x3).toInt32)))] (.int (0 : Int32)) := (Arv.set B6 q6 S6 M6 H6 G6 (fits_nar_byte _) W6 2 rfl (Nat.le_of_ble_eq_true rfl)); rwa [nar_b8] at q)
  have N6 := Fr.snoc X6 N4 nd
  have O6 := O4.wr W6 nd
  have K6 := K4.wr W6 (Or.inl (List.mem_of_getElem? (i := 0) rfl))
  show Fin _ p e below s _ _ _ T6 (mkF m 32 #[.val (.ref b), .val (.int (((0 : Int32) + (1 : Int32)) + (1 : Int32))), .val (.ref d), .val (.int (((0 : Int32) + (1 : Int32)) + (1 : Int32))), .val (.int (3 : Int32)), .val (.int (((0 : Int32) + (1 : Int32)) + (1 : Int32))), .val (.int x3)] [])
  refine Fin.go (fun _ k => XS.iinc X6.here hx rfl (hb hby d5_32) rfl (l' := #[.val (.ref b), .val (.int ((((0 : Int32) + (1 : Int32)) + (1 : Int32)) + (1 : Int32))), .val (.ref d), .val (.int (((0 : Int32) + (1 : Int32)) + (1 : Int32))), .val (.int (3 : Int32)), .val (.int (((0 : Int32) + (1 : Int32)) + (1 : Int32))), .val (.int x3)]) rfl k) ?_
  show Fin _ p e below s _ _ _ T6 (mkF m 35 #[.val (.ref b), .val (.int ((((0 : Int32) + (1 : Int32)) + (1 : Int32)) + (1 : Int32))), .val (.ref d), .val (.int (((0 : Int32) + (1 : Int32)) + (1 : Int32))), .val (.int (3 : Int32)), .val (.int (((0 : Int32) + (1 : Int32)) + (1 : Int32))), .val (.int x3)] [])
  refine Fin.go (fun _ k => XS.iinc X6.here hx rfl (hb hby d5_35) rfl (l' := #[.val (.ref b), .val (.int ((((0 : Int32) + (1 : Int32)) + (1 : Int32)) + (1 : Int32))), .val (.ref d), .val (.int ((((0 : Int32) + (1 : Int32)) + (1 : Int32)) + (1 : Int32))), .val (.int (3 : Int32)), .val (.int (((0 : Int32) + (1 : Int32)) + (1 : Int32))), .val (.int x3)]) rfl k) ?_
  show Fin _ p e below s _ _ _ T6 (mkF m 38 #[.val (.ref b), .val (.int ((((0 : Int32) + (1 : Int32)) + (1 : Int32)) + (1 : Int32))), .val (.ref d), .val (.int ((((0 : Int32) + (1 : Int32)) + (1 : Int32)) + (1 : Int32))), .val (.int (3 : Int32)), .val (.int (((0 : Int32) + (1 : Int32)) + (1 : Int32))), .val (.int x3)] [])
  refine Fin.go (fun _ k => XS.iinc X6.here hx rfl (hb hby d5_38) rfl (l' := #[.val (.ref b), .val (.int ((((0 : Int32) + (1 : Int32)) + (1 : Int32)) + (1 : Int32))), .val (.ref d), .val (.int ((((0 : Int32) + (1 : Int32)) + (1 : Int32)) + (1 : Int32))), .val (.int (3 : Int32)), .val (.int ((((0 : Int32) + (1 : Int32)) + (1 : Int32)) + (1 : Int32))), .val (.int x3)]) rfl k) ?_
  show Fin _ p e below s _ _ _ T6 (mkF m 41 #[.val (.ref b), .val (.int ((((0 : Int32) + (1 : Int32)) + (1 : Int32)) + (1 : Int32))), .val (.ref d), .val (.int ((((0 : Int32) + (1 : Int32)) + (1 : Int32)) + (1 : Int32))), .val (.int (3 : Int32)), .val (.int ((((0 : Int32) + (1 : Int32)) + (1 : Int32)) + (1 : Int32))), .val (.int x3)] [])
  refine Fin.go (fun _ k => XS.goto X6.here hx rfl (pc0 := 41) (pc' := 3) rfl (hb hby d5_41) (by decide) (by decide) k) ?_
  show Fin _ p e below s _ _ _ T6 (mkF m 3 #[.val (.ref b), .val (.int ((((0 : Int32) + (1 : Int32)) + (1 : Int32)) + (1 : Int32))), .val (.ref d), .val (.int ((((0 : Int32) + (1 : Int32)) + (1 : Int32)) + (1 : Int32))), .val (.int (3 : Int32)), .val (.int ((((0 : Int32) + (1 : Int32)) + (1 : Int32)) + (1 : Int32))), .val (.int x3)] [])
  refine Fin.go (fun _ k => XS.iload X6.here hx rfl (hb hby d5_3) rfl k) ?_
  show Fin _ p e below s _ _ _ T6 (mkF m 5 #[.val (.ref b), .val (.int ((((0 : Int32) + (1 : Int32)) + (1 : Int32)) + (1 : Int32))), .val (.ref d), .val (.int ((((0 : Int32) + (1 : Int32)) + (1 : Int32)) + (1 : Int32))), .val (.int (3 : Int32)), .val (.int ((((0 : Int32) + (1 : Int32)) + (1 : Int32)) + (1 : Int32))), .val (.int x3)] [(.int ((((0 : Int32) + (1 : Int32)) + (1 : Int32)) + (1 : Int32)))])
  refine Fin.go (fun _ k => XS.iload X6.here hx rfl (hb hby d5_5) rfl k) ?_
  show Fin _ p e below s _ _ _ T6 (mkF m 7 #[.val (.ref b), .val (.int ((((0 : Int32) + (1 : Int32)) + (1 : Int32)) + (1 : Int32))), .val (.ref d), .val (.int ((((0 : Int32) + (1 : Int32)) + (1 : Int32)) + (1 : Int32))), .val (.int (3 : Int32)), .val (.int ((((0 : Int32) + (1 : Int32)) + (1 : Int32)) + (1 : Int32))), .val (.int x3)] [(.int (3 : Int32)), (.int ((((0 : Int32) + (1 : Int32)) + (1 : Int32)) + (1 : Int32)))])
  refine Fin.go (fun _ k => XS.icmpYes X6.here hx rfl (pc0 := 7) (pc' := 44) rfl (hb hby d5_7) rfl (XT.ii_ge_t (by decide)) (by decide) (by decide) k) ?_
  show Fin _ p e below s _ _ _ T6 (mkF m 44 #[.val (.ref b), .val (.int ((((0 : Int32) + (1 : Int32)) + (1 : Int32)) + (1 : Int32))), .val (.ref d), .val (.int ((((0 : Int32) + (1 : Int32)) + (1 : Int32)) + (1 : Int32))), .val (.int (3 : Int32)), .val (.int ((((0 : Int32) + (1 : Int32)) + (1 : Int32)) + (1 : Int32))), .val (.int x3)] [])
  refine Fin.go (fun _ k => XS.iload X6.here hx rfl (hb hby d5_44) rfl k) ?_
  show Fin _ p e below s _ _ _ T6 (mkF m 46 #[.val (.ref b), .val (.int ((((0 : Int32) + (1 : Int32)) + (1 : Int32)) + (1 : Int32))), .val (.ref d), .val (.int ((((0 : Int32) + (1 : Int32)) + (1 : Int32)) + (1 : Int32))), .val (.int (3 : Int32)), .val (.int ((((0 : Int32) + (1 : Int32)) + (1 : Int32)) + (1 : Int32))), .val (.int x3)] [(.int (3 : Int32))])
  exact Fin.leaveN X6 e6 hlk (v := some (.int (3 : Int32))) (fun h => by rw [hret] at h; cases h) (by decide) (by decide) ⟨rfl, N6, K6, V6⟩ (fun fs hr => retI X6 hx hret (hb hby d5_46) hr)
set_option maxRecDepth 65536 in
set_option maxHeartbeats 40000000 in
theorem rmCmpA3 (l : Launch) (Z : State) (a0 : Array Value) (hw : ∀ d ∈ tables_1, d.before a0 Z = true) (n0 : Nat) (h0 : Heap) (O : Old Z n0 h0) (b : Addr) (kb : ClassId) (x1 x2 x3 : Int32) (VB : Arv Z h0 b kb .char (3 : Int32) [(.int x1), (.int x2), (.int x3)] (.int (0 : Int32))) (hp1 : ¬ (255 : Int32) < x1) (hp2 : ¬ (255 : Int32) < x2) (hp3 : ¬ (255 : Int32) < x3) :
    ConW FrameEnd l Z [] (⟨"java/lang/StringUTF16", "compress", "([CII)[B"⟩ : MethodName) jdk_52_method_16_code 6 (some (.array .byte)) ({ frames := 1, cells := 1, slots := 3, locals := 18 } : Room) #[(.ref b), (.int (0 : Int32)), (.int (3 : Int32))] h0 (fun v h L => ∃ d kd, v = some (.ref d) ∧ Fr n0 L ∧ Keep h0 h [] ∧ Arv Z h d kd .byte (3 : Int32) [(.int ((Int32.toInt8 x1).toInt32)), (.int ((Int32.toInt8 x2).toInt32)), (.int ((Int32.toInt8 x3).toInt32))] (.int (0 : Int32)) ∧ h0.size ≤ d) := by
  refine conOf (plainFor_of_name pn_java_lang_StringUTF16) ?_
  intro p e s m below mth cc s₁ X0 hx hby hml hown hnm hret hlk hZ e0
  have N0 := Fr.nil n0
  have K0 := Keep.refl h0 ([] : List Addr)
  refine Fin.came (castTop (t := _) (by first | (simp [entryFrame, mkF, argsToLocals, Value.category]; done) | rfl) (Steps.refl _) : Steps p.tables e below (s₁.setTop (entryFrame m #[(.ref b), (.int (0 : Int32)), (.int (3 : Int32))] 6)) (s₁.setTop (mkF m 0 #[.val (.ref b), .val (.int (0 : Int32)), .val (.int (3 : Int32)), .unset, .unset, .unset] []))) ?_
  show Fin _ p e below s _ _ _ s₁ (mkF m 0 #[.val (.ref b), .val (.int (0 : Int32)), .val (.int (3 : Int32)), .unset, .unset, .unset] [])
  refine Fin.go (fun _ k => XS.iloadN X0.here hx rfl (hb hby d4_0) rfl k) ?_
  show Fin _ p e below s _ _ _ s₁ (mkF m 1 #[.val (.ref b), .val (.int (0 : Int32)), .val (.int (3 : Int32)), .unset, .unset, .unset] [(.int (3 : Int32))])
  obtain ⟨T1, h1, k1, X1, e1, E1, A1, st1⟩ := newP X0 hx hZ (aty := .byte) (hw _ w_19) e0 (g := (mkF m 1 #[.val (.ref b), .val (.int (0 : Int32)), .val (.int (3 : Int32)), .unset, .unset, .unset] [(.int (3 : Int32))])) rfl (hb hby d4_1) rfl (by decide : ¬ ((3 : Int32) < (0 : Int32))) (cap := 3) (by decide) (by decide) (by decide) (by decide)
  obtain ⟨a1, g1⟩ : ∃ z, z = h0.size := ⟨_, rfl⟩
  rw [← g1] at A1 st1
  refine Fin.go st1 ?_
  have O1 := O.ext E1
  have K1 := K0.ext E1
  have n1 : n0 ≤ a1 := by have := O.2.1; have := O.1; omega
  have z1 : h0.size ≤ a1 := by have := K0.1; omega
  have V1 : Arv Z h1 a1 k1 .byte (3 : Int32) [(.int (0 : Int32)), (.int (0 : Int32)), (.int (0 : Int32))] (.int (0 : Int32)) := (Arv.new A1 (by decide)).pad (pad_rep [] (.int (0 : Int32)) 3)
  show Fin _ p e below s _ _ _ T1 (mkF m 3 #[.val (.ref b), .val (.int (0 : Int32)), .val (.int (3 : Int32)), .unset, .unset, .unset] [(.ref a1)])
  refine Fin.go (fun _ k => XS.astoreN X1.here hx rfl (hb hby d4_3) rfl rfl (l' := #[.val (.ref b), .val (.int (0 : Int32)), .val (.int (3 : Int32)), .val (.ref a1), .unset, .unset]) rfl k) ?_
  show Fin _ p e below s _ _ _ T1 (mkF m 4 #[.val (.ref b), .val (.int (0 : Int32)), .val (.int (3 : Int32)), .val (.ref a1), .unset, .unset] [])
  refine Fin.go (fun _ k => XS.aloadN X1.here hx rfl (hb hby d4_4) rfl rfl k) ?_
  show Fin _ p e below s _ _ _ T1 (mkF m 5 #[.val (.ref b), .val (.int (0 : Int32)), .val (.int (3 : Int32)), .val (.ref a1), .unset, .unset] [(.ref b)])
  refine Fin.go (fun _ k => XS.iloadN X1.here hx rfl (hb hby d4_5) rfl k) ?_
  show Fin _ p e below s _ _ _ T1 (mkF m 6 #[.val (.ref b), .val (.int (0 : Int32)), .val (.int (3 : Int32)), .val (.ref a1), .unset, .unset] [(.int (0 : Int32)), (.ref b)])
  refine Fin.go (fun _ k => XS.aloadN X1.here hx rfl (hb hby d4_6) rfl rfl k) ?_
  show Fin _ p e below s _ _ _ T1 (mkF m 7 #[.val (.ref b), .val (.int (0 : Int32)), .val (.int (3 : Int32)), .val (.ref a1), .unset, .unset] [(.ref a1), (.int (0 : Int32)), (.ref b)])
  refine Fin.go (fun _ k => XS.iconst X1.here hx rfl (hb hby d4_7) k) ?_
  show Fin _ p e below s _ _ _ T1 (mkF m 8 #[.val (.ref b), .val (.int (0 : Int32)), .val (.int (3 : Int32)), .val (.ref a1), .unset, .unset] [(.int (0 : Int32)), (.ref a1), (.int (0 : Int32)), (.ref b)])
  refine Fin.go (fun _ k => XS.iloadN X1.here hx rfl (hb hby d4_8) rfl k) ?_
  show Fin _ p e below s _ _ _ T1 (mkF m 9 #[.val (.ref b), .val (.int (0 : Int32)), .val (.int (3 : Int32)), .val (.ref a1), .unset, .unset] [(.int (3 : Int32)), (.int (0 : Int32)), (.ref a1), (.int (0 : Int32)), (.ref b)])
  obtain ⟨v2, T2, L2, X2, q2, st2⟩ := callSt X1 hx hZ (y := (⟨"java/lang/StringUTF16", "compress", "([CI[BII)I"⟩ : MethodName)) hown (hw _ w_20) (hw _ w_21) (hw _ w_17) (hw _ w_22) (by decide) (W := 0) (rmCmpB3 l Z a0 hw n0 h1 O1 b a1 kb k1 x1 x2 x3 (VB.ext E1) V1 hp1 hp2 hp3 n1 (Nat.ne_of_lt (Nat.lt_of_lt_of_eq VB.lt g1.symm))) e1 (by decide) (by decide) (by decide) (by decide) (g := (mkF m 9 #[.val (.ref b), .val (.int (0 : Int32)), .val (.int (3 : Int32)), .val (.ref a1), .unset, .unset] [(.int (3 : Int32)), (.int (0 : Int32)), (.ref a1), (.int (0 : Int32)), (.ref b)])) rfl (by rw [hml]; rfl) (argsL := [(.ref b), (.int (0 : Int32)), (.ref a1), (.int (0 : Int32)), (.int (3 : Int32))]) (rest := []) (lenOf pd_oACIABIIcI rfl) rfl (by show 2 * 0 + _ ≤ _; exact Nat.le_of_eq rfl) (hb hby d4_9)
  obtain ⟨rfl, Nq2, Kq2, V2⟩ := q2
  have N2 := Fr.app N0 Nq2
  have O2 := O1.keep Kq2 (allS n1 all0)
  have K2 := K1.trans Kq2 (allS (Or.inr z1) all0)
  refine Fin.go st2 ?_
  have V2_b := ((VB.ext E1).keep Kq2 (ninS (Nat.ne_of_lt (Nat.lt_of_lt_of_eq VB.lt g1.symm)) nin0))
  show Fin _ p e below s _ _ _ T2 (mkF m 12 #[.val (.ref b), .val (.int (0 : Int32)), .val (.int (3 : Int32)), .val (.ref a1), .unset, .unset] [(.int (3 : Int32))])
  refine Fin.go (fun _ k => XS.istore X2.here hx rfl (hb hby d4_12) rfl (l' := #[.val (.ref b), .val (.int (0 : Int32)), .val (.int (3 : Int32)), .val (.ref a1), .val (.int (3 : Int32)), .unset]) rfl k) ?_
  show Fin _ p e below s _ _ _ T2 (mkF m 14 #[.val (.ref b), .val (.int (0 : Int32)), .val (.int (3 : Int32)), .val (.ref a1), .val (.int (3 : Int32)), .unset] [])
  refine Fin.go (fun _ k => XS.iload X2.here hx rfl (hb hby d4_14) rfl k) ?_
  show Fin _ p e below s _ _ _ T2 (mkF m 16 #[.val (.ref b), .val (.int (0 : Int32)), .val (.int (3 : Int32)), .val (.ref a1), .val (.int (3 : Int32)), .unset] [(.int (3 : Int32))])
  refine Fin.go (fun _ k => XS.iloadN X2.here hx rfl (hb hby d4_16) rfl k) ?_
  show Fin _ p e below s _ _ _ T2 (mkF m 17 #[.val (.ref b), .val (.int (0 : Int32)), .val (.int (3 : Int32)), .val (.ref a1), .val (.int (3 : Int32)), .unset] [(.int (3 : Int32)), (.int (3 : Int32))])
  refine Fin.go (fun _ k => XS.icmpYes X2.here hx rfl (pc0 := 17) (pc' := 57) rfl (hb hby d4_17) rfl (XT.ii_eq_t (by decide)) (by decide) (by decide) k) ?_
  show Fin _ p e below s _ _ _ T2 (mkF m 57 #[.val (.ref b), .val (.int (0 : Int32)), .val (.int (3 : Int32)), .val (.ref a1), .val (.int (3 : Int32)), .unset] [])
  refine Fin.go (fun _ k => XS.aloadN X2.here hx rfl (hb hby d4_57) rfl rfl k) ?_
  show Fin _ p e below s _ _ _ T2 (mkF m 58 #[.val (.ref b), .val (.int (0 : Int32)), .val (.int (3 : Int32)), .val (.ref a1), .val (.int (3 : Int32)), .unset] [(.ref a1)])
  exact Fin.leaveN X2 (rfl : T2.heap = T2.heap) hlk (v := some (.ref a1)) (fun h => by rw [hret] at h; cases h) (by decide) (by decide) ⟨a1, k1, rfl, N2, K2, V2, z1⟩ (fun fs hr => retOut X2 hx hret rfl (Or.inr (Or.inr (Or.inr (Or.inr ⟨rfl, rfl, rfl⟩)))) (hb hby d4_58) hr)
set_option maxRecDepth 65536 in
set_option maxHeartbeats 40000000 in
theorem rmCod3 (l : Launch) (Z : State) (a0 : Array Value) (hw : ∀ d ∈ tables_1, d.before a0 Z = true) (n0 : Nat) (h0 : Heap) (O : Old Z n0 h0) (d : Addr) (kd : ClassId) (x1 x2 x3 : Int32) (VD : Arv Z h0 d kd .byte (3 : Int32) [(.int x1), (.int x2), (.int x3)] (.int (0 : Int32))) :
    ConW FrameEnd l Z [] (⟨"java/lang/StringUTF16", "coderFromArrayLen", "([BI)B"⟩ : MethodName) jdk_52_method_15_code 2 (some .byte) ({ frames := 0, cells := 0, slots := 0, locals := 0 } : Room) #[(.ref d), (.int (3 : Int32))] h0 (Pure h0 (some (.int (0 : Int32)))) := by
  refine conOf (plainFor_of_name pn_java_lang_StringUTF16) ?_
  intro p e s m below mth cc s₁ X0 hx hby hml hown hnm hret hlk hZ e0
  have N0 := Fr.nil n0
  refine Fin.came (castTop (t := _) (by first | (simp [entryFrame, mkF, argsToLocals, Value.category]; done) | rfl) (Steps.refl _) : Steps p.tables e below (s₁.setTop (entryFrame m #[(.ref d), (.int (3 : Int32))] 2)) (s₁.setTop (mkF m 0 #[.val (.ref d), .val (.int (3 : Int32))] []))) ?_
  show Fin _ p e below s _ _ _ s₁ (mkF m 0 #[.val (.ref d), .val (.int (3 : Int32))] [])
  refine Fin.go (fun _ k => XS.iloadN X0.here hx rfl (hb hby d6_0) rfl k) ?_
  show Fin _ p e below s _ _ _ s₁ (mkF m 1 #[.val (.ref d), .val (.int (3 : Int32))] [(.int (3 : Int32))])
  refine Fin.go (fun _ k => XS.aloadN X0.here hx rfl (hb hby d6_1) rfl rfl k) ?_
  show Fin _ p e below s _ _ _ s₁ (mkF m 2 #[.val (.ref d), .val (.int (3 : Int32))] [(.ref d), (.int (3 : Int32))])
  obtain ⟨c1, B1, q1, S1, M1, H1, G1⟩ := id VD
  refine Fin.go (fun _ k => X0.arraylength hx (by rw [e0]; exact B1.1) (State.isArrayOf_alike hZ.alike B1.2.1) (g := (mkF m 2 #[.val (.ref d), .val (.int (3 : Int32))] [(.ref d), (.int (3 : Int32))])) rfl rfl (hb hby d6_2) _ k) ?_
  rw [len_of S1 M1]
  show Fin _ p e below s _ _ _ s₁ (mkF m 3 #[.val (.ref d), .val (.int (3 : Int32))] [(.int (3 : Int32)), (.int (3 : Int32))])
  refine Fin.go (fun _ k => XS.isub X0.here hx rfl (hb hby d6_3) rfl k) ?_
  show Fin _ p e below s _ _ _ s₁ (mkF m 4 #[.val (.ref d), .val (.int (3 : Int32))] [(.int ((3 : Int32) - (3 : Int32)))])
  refine Fin.go (fun _ k => XS.bipush X0.here hx rfl (hb hby d6_4) k) ?_
  show Fin _ p e below s _ _ _ s₁ (mkF m 6 #[.val (.ref d), .val (.int (3 : Int32))] [(.int (31 : Int32)), (.int ((3 : Int32) - (3 : Int32)))])
  refine Fin.go (fun _ k => XT.iushr X0.here hx rfl (hb hby d6_6) rfl k) ?_
  show Fin _ p e below s _ _ _ s₁ (mkF m 7 #[.val (.ref d), .val (.int (3 : Int32))] [(.int (XT.ushr ((3 : Int32) - (3 : Int32)) (31 : Int32)))])
  refine Fin.go (fun _ k => XT.i2b X0.here hx rfl (hb hby d6_7) rfl k) ?_
  show Fin _ p e below s _ _ _ s₁ (mkF m 8 #[.val (.ref d), .val (.int (3 : Int32))] [(.int ((Int32.toInt8 (XT.ushr ((3 : Int32) - (3 : Int32)) (31 : Int32))).toInt32))])
  exact Fin.leaveN X0 e0 hlk (v := some (.int (nar .byte ((Int32.toInt8 (XT.ushr ((3 : Int32) - (3 : Int32)) (31 : Int32))).toInt32)))) (fun h => by rw [hret] at h; cases h) (by decide) (by decide) ⟨by decide +kernel, rfl, rfl⟩ (fun fs hr => retN X0 hx (t := .byte) hret (by simp) (hb hby d6_8) hr)
set_option maxRecDepth 65536 in
set_option maxHeartbeats 40000000 in
theorem rmStrV3 (l : Launch) (Z : State) (a0 : Array Value) (hw : ∀ d ∈ tables_1, d.before a0 Z = true) (n0 : Nat) (h0 : Heap) (O : Old Z n0 h0) (a b : Addr) (kb : ClassId) (x1 x2 x3 : Int32) (cs : Int32) (S_cs : Sta Z Z.heap "java/lang/String" "COMPACT_STRINGS" "Z" (.int cs)) (hcs : ¬ cs = 0) (VB : Arv Z h0 b kb .char (3 : Int32) [(.int x1), (.int x2), (.int x3)] (.int (0 : Int32))) (A : Exa Z h0 a "java/lang/String") (F1 : Fld Z h0 a "java/lang/String" "coder" "B" (.int (0 : Int32))) (F2 : Fld Z h0 a "java/lang/String" "value" "[B" .null) (hp1 : ¬ (255 : Int32) < x1) (hp2 : ¬ (255 : Int32) < x2) (hp3 : ¬ (255 : Int32) < x3) (na : n0 ≤ a) (nba : b ≠ a) :
    ConW FrameEnd l Z [] (⟨"java/lang/String", "<init>", "([CIILjava/lang/Void;)V"⟩ : MethodName) jdk_42_method_149_code 6 none ({ frames := 2, cells := 1, slots := 3, locals := 35 } : Room) #[(.ref a), (.ref b), (.int (0 : Int32)), (.int (3 : Int32)), .null] h0 (fun v h L => v = none ∧ Fr n0 L ∧ Keep h0 h [a] ∧ Exa Z h a "java/lang/String" ∧ Fld Z h a "java/lang/String" "coder" "B" (.int (0 : Int32)) ∧ ∃ d kd, Fld Z h a "java/lang/String" "value" "[B" (.ref d) ∧ Arv Z h d kd .byte (3 : Int32) [(.int ((Int32.toInt8 x1).toInt32)), (.int ((Int32.toInt8 x2).toInt32)), (.int ((Int32.toInt8 x3).toInt32))] (.int (0 : Int32)) ∧ h0.size ≤ d) := by
  refine conOf (plainFor_of_name pn_java_lang_String) ?_
  intro p e s m below mth cc s₁ X0 hx hby hml hown hnm hret hlk hZ e0
  have N0 := Fr.nil n0
  have K0 := Keep.refl h0 ([a] : List Addr)
  refine Fin.came (castTop (t := _) (by first | (simp [entryFrame, mkF, argsToLocals, Value.category]; done) | rfl) (Steps.refl _) : Steps p.tables e below (s₁.setTop (entryFrame m #[(.ref a), (.ref b), (.int (0 : Int32)), (.int (3 : Int32)), .null] 6)) (s₁.setTop (mkF m 0 #[.val (.ref a), .val (.ref b), .val (.int (0 : Int32)), .val (.int (3 : Int32)), .val .null, .unset] []))) ?_
  show Fin _ p e below s _ _ _ s₁ (mkF m 0 #[.val (.ref a), .val (.ref b), .val (.int (0 : Int32)), .val (.int (3 : Int32)), .val .null, .unset] [])
  refine Fin.go (fun _ k => XS.aloadN X0.here hx rfl (hb hby d2_0) rfl rfl k) ?_
  show Fin _ p e below s _ _ _ s₁ (mkF m 1 #[.val (.ref a), .val (.ref b), .val (.int (0 : Int32)), .val (.int (3 : Int32)), .val .null, .unset] [(.ref a)])
  obtain ⟨T1, X1, e1, st1⟩ := initO X0 hx hZ hown (hw _ w_11) (hw _ w_12) (hw _ w_13) e0 (g := (mkF m 1 #[.val (.ref a), .val (.ref b), .val (.int (0 : Int32)), .val (.int (3 : Int32)), .val .null, .unset] [(.ref a)])) rfl (by rw [hml]; rfl) rfl (hb hby d2_1) (by decide) (W := 0) (by show 2 * 0 + _ ≤ _; exact Nat.le_of_eq rfl) (by decide)
  refine Fin.go st1 ?_
  show Fin _ p e below s _ _ _ T1 (mkF m 4 #[.val (.ref a), .val (.ref b), .val (.int (0 : Int32)), .val (.int (3 : Int32)), .val .null, .unset] [])
  refine Fin.go (fun _ k => XS.iloadN X1.here hx rfl (hb hby d2_4) rfl k) ?_
  show Fin _ p e below s _ _ _ T1 (mkF m 5 #[.val (.ref a), .val (.ref b), .val (.int (0 : Int32)), .val (.int (3 : Int32)), .val .null, .unset] [(.int (3 : Int32))])
  refine Fin.go (fun _ k => XS.ifYes X1.here hx rfl (pc0 := 5) (pc' := 27) rfl (hb hby d2_5) rfl (XT.i0_ne_t (by decide)) (by decide) (by decide) k) ?_
  show Fin _ p e below s _ _ _ T1 (mkF m 27 #[.val (.ref a), .val (.ref b), .val (.int (0 : Int32)), .val (.int (3 : Int32)), .val .null, .unset] [])
  obtain ⟨T2, X2, e2, st2⟩ := getS2 X1 hx hZ hown (host := "") (Or.inl (hw _ w_14)) Via.refl e1 (S_cs.ext O.2) (g := (mkF m 27 #[.val (.ref a), .val (.ref b), .val (.int (0 : Int32)), .val (.int (3 : Int32)), .val .null, .unset] [])) rfl (hb hby d2_27)
  refine Fin.go st2 ?_
  show Fin _ p e below s _ _ _ T2 (mkF m 30 #[.val (.ref a), .val (.ref b), .val (.int (0 : Int32)), .val (.int (3 : Int32)), .val .null, .unset] [(.int cs)])
  refine Fin.go (fun _ k => XS.ifNo X2.here hx rfl (hb hby d2_30) rfl (XT.i0_eq_f hcs) k) ?_
  show Fin _ p e below s _ _ _ T2 (mkF m 33 #[.val (.ref a), .val (.ref b), .val (.int (0 : Int32)), .val (.int (3 : Int32)), .val .null, .unset] [])
  refine Fin.go (fun _ k => XS.aloadN X2.here hx rfl (hb hby d2_33) rfl rfl k) ?_
  show Fin _ p e below s _ _ _ T2 (mkF m 34 #[.val (.ref a), .val (.ref b), .val (.int (0 : Int32)), .val (.int (3 : Int32)), .val .null, .unset] [(.ref b)])
  refine Fin.go (fun _ k => XS.iloadN X2.here hx rfl (hb hby d2_34) rfl k) ?_
  show Fin _ p e below s _ _ _ T2 (mkF m 35 #[.val (.ref a), .val (.ref b), .val (.int (0 : Int32)), .val (.int (3 : Int32)), .val .null, .unset] [(.int (0 : Int32)), (.ref b)])
  refine Fin.go (fun _ k => XS.iloadN X2.here hx rfl (hb hby d2_35) rfl k) ?_
  show Fin _ p e below s _ _ _ T2 (mkF m 36 #[.val (.ref a), .val (.ref b), .val (.int (0 : Int32)), .val (.int (3 : Int32)), .val .null, .unset] [(.int (3 : Int32)), (.int (0 : Int32)), (.ref b)])
  obtain ⟨v3, T3, L3, X3, q3, st3⟩ := callSt X2 hx hZ (y := (⟨"java/lang/StringUTF16", "compress", "([CII)[B"⟩ : MethodName)) hown (hw _ w_15) (hw _ w_16) (hw _ w_17) (hw _ w_18) (by decide) (W := 0) (rmCmpA3 l Z a0 hw n0 h0 O b kb x1 x2 x3 VB hp1 hp2 hp3) e2 (by decide) (by decide) (by decide) (by decide) (g := (mkF m 36 #[.val (.ref a), .val (.ref b), .val (.int (0 : Int32)), .val (.int (3 : Int32)), .val .null, .unset] [(.int (3 : Int32)), (.int (0 : Int32)), (.ref b)])) rfl (by rw [hml]; rfl) (argsL := [(.ref b), (.int (0 : Int32)), (.int (3 : Int32))]) (rest := []) (lenOf pd_oACIIcAB rfl) rfl (by show 2 * 0 + _ ≤ _; exact Nat.le_of_eq rfl) (hb hby d2_36)
  obtain ⟨d3, kd3, rfl, Nq3, Kq3, V3, zd3⟩ := q3
  have N3 := Fr.app N0 Nq3
  have O3 := O.keep Kq3 all0
  have K3 := K0.trans Kq3 all0
  refine Fin.go st3 ?_
  show Fin _ p e below s _ _ _ T3 (mkF m 39 #[.val (.ref a), .val (.ref b), .val (.int (0 : Int32)), .val (.int (3 : Int32)), .val .null, .unset] [(.ref d3)])
  have nzd3 : n0 ≤ d3 := Nat.le_trans (by have := O.1; have := O.2.1; omega) zd3
  have hzd3 : h0.size ≤ d3 := Nat.le_trans K0.1 zd3
  refine Fin.go (fun _ k => XS.astore X3.here hx rfl (hb hby d2_39) rfl rfl (l' := #[.val (.ref a), .val (.ref b), .val (.int (0 : Int32)), .val (.int (3 : Int32)), .val .null, .val (.ref d3)]) rfl k) ?_
  show Fin _ p e below s _ _ _ T3 (mkF m 41 #[.val (.ref a), .val (.ref b), .val (.int (0 : Int32)), .val (.int (3 : Int32)), .val .null, .val (.ref d3)] [])
  refine Fin.go (fun _ k => XS.aloadN X3.here hx rfl (hb hby d2_41) rfl rfl k) ?_
  show Fin _ p e below s _ _ _ T3 (mkF m 42 #[.val (.ref a), .val (.ref b), .val (.int (0 : Int32)), .val (.int (3 : Int32)), .val .null, .val (.ref d3)] [(.ref a)])
  refine Fin.go (fun _ k => XS.aload X3.here hx rfl (hb hby d2_42) rfl rfl k) ?_
  show Fin _ p e below s _ _ _ T3 (mkF m 44 #[.val (.ref a), .val (.ref b), .val (.int (0 : Int32)), .val (.int (3 : Int32)), .val .null, .val (.ref d3)] [(.ref d3), (.ref a)])
  refine Fin.go (fun _ k => XS.iloadN X3.here hx rfl (hb hby d2_44) rfl k) ?_
  show Fin _ p e below s _ _ _ T3 (mkF m 45 #[.val (.ref a), .val (.ref b), .val (.int (0 : Int32)), .val (.int (3 : Int32)), .val .null, .val (.ref d3)] [(.int (3 : Int32)), (.ref d3), (.ref a)])
  obtain ⟨v4, T4, L4, X4, q4, st4⟩ := callSt X3 hx hZ (y := (⟨"java/lang/StringUTF16", "coderFromArrayLen", "([BI)B"⟩ : MethodName)) hown (hw _ w_23) (hw _ w_24) (hw _ w_17) (hw _ w_25) (by decide) (W := 1) (rmCod3 l Z a0 hw n0 T3.heap O3 d3 kd3 ((Int32.toInt8 x1).toInt32) ((Int32.toInt8 x2).toInt32) ((Int32.toInt8 x3).toInt32) V3) (rfl : T3.heap = T3.heap) (by decide) (by decide) (by decide) (by decide) (g := (mkF m 45 #[.val (.ref a), .val (.ref b), .val (.int (0 : Int32)), .val (.int (3 : Int32)), .val .null, .val (.ref d3)] [(.int (3 : Int32)), (.ref d3), (.ref a)])) rfl (by rw [hml]; rfl) (argsL := [(.ref d3), (.int (3 : Int32))]) (rest := [(.ref a)]) (lenOf pd_oABIcB rfl) rfl (by show 2 * 0 + _ ≤ _; exact Nat.le_of_eq rfl) (hb hby d2_45)
  obtain ⟨rfl, e4, rfl⟩ := q4
  have N4 := Fr.app N3 (Fr.nil n0)
  refine Fin.go st4 ?_
  show Fin _ p e below s _ _ _ T4 (mkF m 48 #[.val (.ref a), .val (.ref b), .val (.int (0 : Int32)), .val (.int (3 : Int32)), .val .null, .val (.ref d3)] [(.int (0 : Int32)), (.ref a)])
  obtain ⟨T5, h5, X5, e5, W5, st5⟩ := putF X4 hx hZ hown (host := "") (Or.inl (hw _ w_26)) Via.refl e4 (F1.keep Kq3 nin0) (A.keep Kq3) (Or.inr ⟨(hw _ w_27), rfl, hnm⟩) (hw _ w_1) (ty := .byte) (by decide) rfl rfl (g := (mkF m 48 #[.val (.ref a), .val (.ref b), .val (.int (0 : Int32)), .val (.int (3 : Int32)), .val .null, .val (.ref d3)] [(.int (0 : Int32)), (.ref a)])) rfl rfl (hb hby d2_48)
  refine Fin.go st5 ?_
  have N5 := Fr.snoc X5 N4 na
  have O5 := O3.wr W5 na
  have K5 := K3.wr W5 (Or.inl (List.mem_of_getElem? (i := 0) rfl))
  have F5_a_value := ((F2.keep Kq3 nin0).other W5 (Or.inr (slot_ne (Or.inr (hw _ w_29)) (Or.inr (hw _ w_27)) (by decide) (t := (.array .byte)) (t' := .byte) (by decide) (by decide))))
  have V5_d3 := (V3.other W5 (Ne.symm (Nat.ne_of_lt (Nat.lt_of_lt_of_le F2.lt zd3))))
  show Fin _ p e below s _ _ _ T5 (mkF m 51 #[.val (.ref a), .val (.ref b), .val (.int (0 : Int32)), .val (.int (3 : Int32)), .val .null, .val (.ref d3)] [])
  refine Fin.go (fun _ k => XS.aloadN X5.here hx rfl (hb hby d2_51) rfl rfl k) ?_
  show Fin _ p e below s _ _ _ T5 (mkF m 52 #[.val (.ref a), .val (.ref b), .val (.int (0 : Int32)), .val (.int (3 : Int32)), .val .null, .val (.ref d3)] [(.ref a)])
  refine Fin.go (fun _ k => XS.aload X5.here hx rfl (hb hby d2_52) rfl rfl k) ?_
  show Fin _ p e below s _ _ _ T5 (mkF m 54 #[.val (.ref a), .val (.ref b), .val (.int (0 : Int32)), .val (.int (3 : Int32)), .val .null, .val (.ref d3)] [(.ref d3), (.ref a)])
  obtain ⟨T6, h6, X6, e6, W6, st6⟩ := putF X5 hx hZ hown (host := "") (Or.inl (hw _ w_28)) Via.refl e5 F5_a_value ((A.keep Kq3).wr W5) (Or.inr ⟨(hw _ w_29), rfl, hnm⟩) (hw _ w_1) (ty := (.array .byte)) (by decide) rfl rfl (g := (mkF m 54 #[.val (.ref a), .val (.ref b), .val (.int (0 : Int32)), .val (.int (3 : Int32)), .val .null, .val (.ref d3)] [(.ref d3), (.ref a)])) rfl rfl (hb hby d2_54)
  refine Fin.go st6 ?_
  have N6 := Fr.snoc X6 N5 na
  have O6 := O5.wr W6 na
  have K6 := K5.wr W6 (Or.inl (List.mem_of_getElem? (i := 0) rfl))
  have F6_a_coder := (((F1.keep Kq3 nin0).same W5).other W6 (Or.inr (slot_ne (Or.inr (hw _ w_27)) (Or.inr (hw _ w_29)) (by decide) (t := .byte) (t' := (.array .byte)) (by decide) (by decide))))
  have V6_d3 := (V5_d3.other W6 (Ne.symm (Nat.ne_of_lt (Nat.lt_of_lt_of_le F2.lt zd3))))
  show Fin _ p e below s _ _ _ T6 (mkF m 57 #[.val (.ref a), .val (.ref b), .val (.int (0 : Int32)), .val (.int (3 : Int32)), .val .null, .val (.ref d3)] [])
  exact Fin.leaveN X6 e6 hlk (v := none) (fun _ => rfl) (by decide) (by decide) ⟨rfl, N6, K6, (((A.keep Kq3).wr W5).wr W6), F6_a_coder, d3, kd3, (F5_a_value.same W6), V6_d3, hzd3⟩ (fun fs hr => X6.returnOut hx hret (hb hby d2_57) hr)
set_option maxRecDepth 65536 in
set_option maxHeartbeats 40000000 in
theorem rmStr3 (l : Launch) (Z : State) (a0 : Array Value) (hw : ∀ d ∈ tables_1, d.before a0 Z = true) (n0 : Nat) (h0 : Heap) (O : Old Z n0 h0) (a b : Addr) (kb : ClassId) (x1 x2 x3 : Int32) (cs : Int32) (S_cs : Sta Z Z.heap "java/lang/String" "COMPACT_STRINGS" "Z" (.int cs)) (hcs : ¬ cs = 0) (VB : Arv Z h0 b kb .char (3 : Int32) [(.int x1), (.int x2), (.int x3)] (.int (0 : Int32))) (A : Exa Z h0 a "java/lang/String") (F1 : Fld Z h0 a "java/lang/String" "coder" "B" (.int (0 : Int32))) (F2 : Fld Z h0 a "java/lang/String" "value" "[B" .null) (hp1 : ¬ (255 : Int32) < x1) (hp2 : ¬ (255 : Int32) < x2) (hp3 : ¬ (255 : Int32) < x3) (na : n0 ≤ a) (nba : b ≠ a) :
    ConW FrameEnd l Z [] (⟨"java/lang/String", "<init>", "([C)V"⟩ : MethodName) jdk_42_method_3_code 2 none ({ frames := 3, cells := 1, slots := 3, locals := 52 } : Room) #[(.ref a), (.ref b)] h0 (fun v h L => v = none ∧ Fr n0 L ∧ Keep h0 h [a] ∧ Exa Z h a "java/lang/String" ∧ Fld Z h a "java/lang/String" "coder" "B" (.int (0 : Int32)) ∧ ∃ d kd, Fld Z h a "java/lang/String" "value" "[B" (.ref d) ∧ Arv Z h d kd .byte (3 : Int32) [(.int ((Int32.toInt8 x1).toInt32)), (.int ((Int32.toInt8 x2).toInt32)), (.int ((Int32.toInt8 x3).toInt32))] (.int (0 : Int32)) ∧ h0.size ≤ d) := by
  refine conOf (plainFor_of_name pn_java_lang_String) ?_
  intro p e s m below mth cc s₁ X0 hx hby hml hown hnm hret hlk hZ e0
  have N0 := Fr.nil n0
  have K0 := Keep.refl h0 ([a] : List Addr)
  refine Fin.came (castTop (t := _) (by first | (simp [entryFrame, mkF, argsToLocals, Value.category]; done) | rfl) (Steps.refl _) : Steps p.tables e below (s₁.setTop (entryFrame m #[(.ref a), (.ref b)] 2)) (s₁.setTop (mkF m 0 #[.val (.ref a), .val (.ref b)] []))) ?_
  show Fin _ p e below s _ _ _ s₁ (mkF m 0 #[.val (.ref a), .val (.ref b)] [])
  refine Fin.go (fun _ k => XS.aloadN X0.here hx rfl (hb hby d1_0) rfl rfl k) ?_
  show Fin _ p e below s _ _ _ s₁ (mkF m 1 #[.val (.ref a), .val (.ref b)] [(.ref a)])
  refine Fin.go (fun _ k => XS.aloadN X0.here hx rfl (hb hby d1_1) rfl rfl k) ?_
  show Fin _ p e below s _ _ _ s₁ (mkF m 2 #[.val (.ref a), .val (.ref b)] [(.ref b), (.ref a)])
  refine Fin.go (fun _ k => XS.iconst X0.here hx rfl (hb hby d1_2) k) ?_
  show Fin _ p e below s _ _ _ s₁ (mkF m 3 #[.val (.ref a), .val (.ref b)] [(.int (0 : Int32)), (.ref b), (.ref a)])
  refine Fin.go (fun _ k => XS.aloadN X0.here hx rfl (hb hby d1_3) rfl rfl k) ?_
  show Fin _ p e below s _ _ _ s₁ (mkF m 4 #[.val (.ref a), .val (.ref b)] [(.ref b), (.int (0 : Int32)), (.ref b), (.ref a)])
  obtain ⟨c1, B1, q1, S1, M1, H1, G1⟩ := id VB
  refine Fin.go (fun _ k => X0.arraylength hx (by rw [e0]; exact B1.1) (State.isArrayOf_alike hZ.alike B1.2.1) (g := (mkF m 4 #[.val (.ref a), .val (.ref b)] [(.ref b), (.int (0 : Int32)), (.ref b), (.ref a)])) rfl rfl (hb hby d1_4) _ k) ?_
  rw [len_of S1 M1]
  show Fin _ p e below s _ _ _ s₁ (mkF m 5 #[.val (.ref a), .val (.ref b)] [(.int (3 : Int32)), (.int (0 : Int32)), (.ref b), (.ref a)])
  refine Fin.go (fun _ k => XS.aconstNull X0.here hx rfl (hb hby d1_5) k) ?_
  show Fin _ p e below s _ _ _ s₁ (mkF m 6 #[.val (.ref a), .val (.ref b)] [.null, (.int (3 : Int32)), (.int (0 : Int32)), (.ref b), (.ref a)])
  obtain ⟨v2, T2, L2, X2, q2, st2⟩ := callCt X0 hx hZ (y := (⟨"java/lang/String", "<init>", "([CIILjava/lang/Void;)V"⟩ : MethodName)) rfl hown (hw _ w_7) (hw _ w_8) (hw _ w_2) (hw _ w_10) (by decide) (W := 0) (rmStrV3 l Z a0 hw n0 h0 O a b kb x1 x2 x3 cs S_cs hcs VB A F1 F2 hp1 hp2 hp3 na nba) e0 (by decide) (by decide) (by decide) (by decide) (g := (mkF m 6 #[.val (.ref a), .val (.ref b)] [.null, (.int (3 : Int32)), (.int (0 : Int32)), (.ref b), (.ref a)])) rfl (by rw [hml]; rfl) (a := a) (argsL := [(.ref b), (.int (0 : Int32)), (.int (3 : Int32)), .null]) (rest := []) (lenOf pd_oACIILjava_lang_Void_cV rfl) rfl (by show 2 * 0 + _ ≤ _; exact Nat.le_of_eq rfl) (hb hby d1_6)
  obtain ⟨rfl, Nq2, Kq2, A2, C2, d2, kd2, F2, V2, zd2⟩ := q2
  have N2 := Fr.app N0 Nq2
  have O2 := O.keep Kq2 (allS na all0)
  have K2 := K0.trans Kq2 (allS (Or.inl (List.mem_of_getElem? (i := 0) rfl)) all0)
  refine Fin.go st2 ?_
  show Fin _ p e below s _ _ _ T2 (mkF m 9 #[.val (.ref a), .val (.ref b)] [])
  exact Fin.leaveN X2 (rfl : T2.heap = T2.heap) hlk (v := none) (fun _ => rfl) (by decide) (by decide) ⟨rfl, N2, K2, A2, C2, d2, kd2, F2, V2, zd2⟩ (fun fs hr => X2.returnOut hx hret (hb hby d1_9) hr)
set_option maxRecDepth 65536 in
set_option maxHeartbeats 40000000 in
theorem rmRec (l : Launch) (Z : State) (a0 : Array Value) (hw : ∀ d ∈ tables_1, d.before a0 Z = true) (n0 : Nat) (h0 : Heap) (O : Old Z n0 h0) (a : Addr) :
    ConW FrameEnd l Z [] (⟨"java/lang/Record", "<init>", "()V"⟩ : MethodName) jdk_30_method_1_code 1 none ({ frames := 1, cells := 0, slots := 0, locals := 12 } : Room) #[(.ref a)] h0 (Pure h0 none) := by
  refine conOf (plainFor_of_name pn_java_lang_Record) ?_
  intro p e s m below mth cc s₁ X0 hx hby hml hown hnm hret hlk hZ e0
  have N0 := Fr.nil n0
  refine Fin.came (castTop (t := _) (by first | (simp [entryFrame, mkF, argsToLocals, Value.category]; done) | rfl) (Steps.refl _) : Steps p.tables e below (s₁.setTop (entryFrame m #[(.ref a)] 1)) (s₁.setTop (mkF m 0 #[.val (.ref a)] []))) ?_
  show Fin _ p e below s _ _ _ s₁ (mkF m 0 #[.val (.ref a)] [])
  refine Fin.go (fun _ k => XS.aloadN X0.here hx rfl (hb hby d9_0) rfl rfl k) ?_
  show Fin _ p e below s _ _ _ s₁ (mkF m 1 #[.val (.ref a)] [(.ref a)])
  obtain ⟨T1, X1, e1, st1⟩ := initO X0 hx hZ hown (hw _ w_44) (hw _ w_12) (hw _ w_13) e0 (g := (mkF m 1 #[.val (.ref a)] [(.ref a)])) rfl (by rw [hml]; rfl) rfl (hb hby d9_1) (by decide) (W := 0) (by show 2 * 0 + _ ≤ _; exact Nat.le_of_eq rfl) (by decide)
  refine Fin.go st1 ?_
  show Fin _ p e below s _ _ _ T1 (mkF m 4 #[.val (.ref a)] [])
  exact Fin.leaveN X1 e1 hlk (v := none) (fun _ => rfl) (by decide) (by decide) ⟨rfl, rfl, rfl⟩ (fun fs hr => X1.returnOut hx hret (hb hby d9_4) hr)
set_option maxRecDepth 65536 in
set_option maxHeartbeats 40000000 in
theorem rmOI (l : Launch) (Z : State) (a0 : Array Value) (hw : ∀ d ∈ tables_1, d.before a0 Z = true) (n0 : Nat) (h0 : Heap) (O : Old Z n0 h0) (a : Addr) (vn vv vd : Value) (hvn : vn.isRef = true) (hvv : vv.isRef = true) (hvd : vd.isRef = true) (A : Exa Z h0 a "com/example/termspan/termspan/options/Option") (F_name : Fld Z h0 a "com/example/termspan/termspan/options/Option" "name" "Ljava/lang/String;" .null) (F_value : Fld Z h0 a "com/example/termspan/termspan/options/Option" "value" "Ljava/lang/String;" .null) (F_fallback : Fld Z h0 a "com/example/termspan/termspan/options/Option" "fallback" "Ljava/lang/String;" .null) (F_required : Fld Z h0 a "com/example/termspan/termspan/options/Option" "required" "Z" (.int (0 : Int32))) (F_repeatable : Fld Z h0 a "com/example/termspan/termspan/options/Option" "repeatable" "Z" (.int (0 : Int32))) (F_description : Fld Z h0 a "com/example/termspan/termspan/options/Option" "description" "Ljava/lang/String;" .null) (F_range : Fld Z h0 a "com/example/termspan/termspan/options/Option" "range" "Lcom/example/termspan/termspan/options/Option$Range;" .null) (na : n0 ≤ a) :
    ConW FrameEnd l Z [] (⟨"com/example/termspan/termspan/options/Option", "<init>", "(Ljava/lang/String;Ljava/lang/String;Ljava/lang/String;ZZLjava/lang/String;Lcom/example/termspan/termspan/options/Option$Range;)V"⟩ : MethodName) prog_31_method_1_code 8 none ({ frames := 2, cells := 0, slots := 0, locals := 24 } : Room) #[(.ref a), vn, vv, .null, (.int (0 : Int32)), (.int (0 : Int32)), vd, .null] h0 (fun v h L => v = none ∧ Fr n0 L ∧ Keep h0 h [a] ∧ Exa Z h a "com/example/termspan/termspan/options/Option" ∧ Fld Z h a "com/example/termspan/termspan/options/Option" "name" "Ljava/lang/String;" vn ∧ Fld Z h a "com/example/termspan/termspan/options/Option" "value" "Ljava/lang/String;" vv ∧ Fld Z h a "com/example/termspan/termspan/options/Option" "fallback" "Ljava/lang/String;" .null ∧ Fld Z h a "com/example/termspan/termspan/options/Option" "required" "Z" (.int (0 : Int32)) ∧ Fld Z h a "com/example/termspan/termspan/options/Option" "repeatable" "Z" (.int (0 : Int32)) ∧ Fld Z h a "com/example/termspan/termspan/options/Option" "description" "Ljava/lang/String;" vd ∧ Fld Z h a "com/example/termspan/termspan/options/Option" "range" "Lcom/example/termspan/termspan/options/Option$Range;" .null) := by
  refine conOf (plainFor_of_name pn_com_example_termspan_termspan_options_Option) ?_
  intro p e s m below mth cc s₁ X0 hx hby hml hown hnm hret hlk hZ e0
  have N0 := Fr.nil n0
  have K0 := Keep.refl h0 ([a] : List Addr)
  refine Fin.came (castTop (t := _) (by rcases ref_cases hvn with rfl | ⟨_, rfl⟩ <;> rcases ref_cases hvv with rfl | ⟨_, rfl⟩ <;> rcases ref_cases hvd with rfl | ⟨_, rfl⟩ <;> rfl) (Steps.refl _) : Steps p.tables e below (s₁.setTop (entryFrame m #[(.ref a), vn, vv, .null, (.int (0 : Int32)), (.int (0 : Int32)), vd, .null] 8)) (s₁.setTop (mkF m 0 #[.val (.ref a), .val vn, .val vv, .val .null, .val (.int (0 : Int32)), .val (.int (0 : Int32)), .val vd, .val .null] []))) ?_
  show Fin _ p e below s _ _ _ s₁ (mkF m 0 #[.val (.ref a), .val vn, .val vv, .val .null, .val (.int (0 : Int32)), .val (.int (0 : Int32)), .val vd, .val .null] [])
  refine Fin.go (fun _ k => XS.aloadN X0.here hx rfl (hb hby d8_0) rfl rfl k) ?_
  show Fin _ p e below s _ _ _ s₁ (mkF m 1 #[.val (.ref a), .val vn, .val vv, .val .null, .val (.int (0 : Int32)), .val (.int (0 : Int32)), .val vd, .val .null] [(.ref a)])
  obtain ⟨v1, T1, L1, X1, q1, st1⟩ := callCt X0 hx hZ (y := (⟨"java/lang/Record", "<init>", "()V"⟩ : MethodName)) rfl hown (hw _ w_39) (hw _ w_40) (hw _ w_42) (hw _ w_43) (by decide) (W := 0) (rmRec l Z a0 hw n0 h0 O a) e0 (by decide) (by decide) (by decide) (by decide) (g := (mkF m 1 #[.val (.ref a), .val vn, .val vv, .val .null, .val (.int (0 : Int32)), .val (.int (0 : Int32)), .val vd, .val .null] [(.ref a)])) rfl (by rw [hml]; rfl) (a := a) (argsL := []) (rest := []) (lenOf pd_ocV rfl) rfl (by show 2 * 0 + _ ≤ _; exact Nat.le_of_eq rfl) (hb hby d8_1)
  obtain ⟨rfl, e1, rfl⟩ := q1
  have N1 := Fr.app N0 (Fr.nil n0)
  refine Fin.go st1 ?_
  show Fin _ p e below s _ _ _ T1 (mkF m 4 #[.val (.ref a), .val vn, .val vv, .val .null, .val (.int (0 : Int32)), .val (.int (0 : Int32)), .val vd, .val .null] [])
  refine Fin.go (fun _ k => XS.aloadN X1.here hx rfl (hb hby d8_4) rfl rfl k) ?_
  show Fin _ p e below s _ _ _ T1 (mkF m 5 #[.val (.ref a), .val vn, .val vv, .val .null, .val (.int (0 : Int32)), .val (.int (0 : Int32)), .val vd, .val .null] [(.ref a)])
  refine Fin.go (fun _ k => XS.aloadN X1.here hx rfl (hb hby d8_5) rfl hvn k) ?_
  show Fin _ p e below s _ _ _ T1 (mkF m 6 #[.val (.ref a), .val vn, .val vv, .val .null, .val (.int (0 : Int32)), .val (.int (0 : Int32)), .val vd, .val .null] [vn, (.ref a)])
  obtain ⟨T2, h2, X2, e2, W2, st2⟩ := putF X1 hx hZ hown (host := "") (Or.inl (hw _ w_45)) Via.refl e1 F_name A (Or.inr ⟨(hw _ w_46), rfl, hnm⟩) (hw _ w_35) (ty := (.object "java/lang/String")) (by decide) (nar_refv hvn rfl) (fits_refv hvn rfl) (g := (mkF m 6 #[.val (.ref a), .val vn, .val vv, .val .null, .val (.int (0 : Int32)), .val (.int (0 : Int32)), .val vd, .val .null] [vn, (.ref a)])) rfl rfl (hb hby d8_6)
  refine Fin.go st2 ?_
  have N2 := Fr.snoc X2 N1 na
  have O2 := O.wr W2 na
  have K2 := K0.wr W2 (Or.inl (List.mem_of_getElem? (i := 0) rfl))
  have F2_a_value := (F_value.other W2 (Or.inr (slot_ne (Or.inr (hw _ w_48)) (Or.inr (hw _ w_46)) (by decide) (t := (.object "java/lang/String")) (t' := (.object "java/lang/String")) (by decide) (by decide))))
  have F2_a_fallback := (F_fallback.other W2 (Or.inr (slot_ne (Or.inr (hw _ w_50)) (Or.inr (hw _ w_46)) (by decide) (t := (.object "java/lang/String")) (t' := (.object "java/lang/String")) (by decide) (by decide))))
  have F2_a_required := (F_required.other W2 (Or.inr (slot_ne (Or.inr (hw _ w_52)) (Or.inr (hw _ w_46)) (by decide) (t := .boolean) (t' := (.object "java/lang/String")) (by decide) (by decide))))
  have F2_a_repeatable := (F_repeatable.other W2 (Or.inr (slot_ne (Or.inr (hw _ w_54)) (Or.inr (hw _ w_46)) (by decide) (t := .boolean) (t' := (.object "java/lang/String")) (by decide) (by decide))))
  have F2_a_description := (F_description.other W2 (Or.inr (slot_ne (Or.inr (hw _ w_56)) (Or.inr (hw _ w_46)) (by decide) (t := (.object "java/lang/String")) (t' := (.object "java/lang/String")) (by decide) (by decide))))
  have F2_a_range := (F_range.other W2 (Or.inr (slot_ne (Or.inr (hw _ w_58)) (Or.inr (hw _ w_46)) (by decide) (t := (.object "com/example/termspan/termspan/options/Option$Range")) (t' := (.object "java/lang/String")) (by decide) (by decide))))
  show Fin _ p e below s _ _ _ T2 (mkF m 9 #[.val (.ref a), .val vn, .val vv, .val .null, .val (.int (0 : Int32)), .val (.int (0 : Int32)), .val vd, .val .null] [])
  refine Fin.go (fun _ k => XS.aloadN X2.here hx rfl (hb hby d8_9) rfl rfl k) ?_
  show Fin _ p e below s _ _ _ T2 (mkF m 10 #[.val (.ref a), .val vn, .val vv, .val .null, .val (.int (0 : Int32)), .val (.int (0 : Int32)), .val vd, .val .null] [(.ref a)])
  refine Fin.go (fun _ k => XS.aloadN X2.here hx rfl (hb hby d8_10) rfl hvv k) ?_
  show Fin _ p e below s _ _ _ T2 (mkF m 11 #[.val (.ref a), .val vn, .val vv, .val .null, .val (.int (0 : Int32)), .val (.int (0 : Int32)), .val vd, .val .null] [vv, (.ref a)])
  obtain ⟨T3, h3, X3, e3, W3, st3⟩ := putF X2 hx hZ hown (host := "") (Or.inl (hw _ w_47)) Via.refl e2 F2_a_value (A.wr W2) (Or.inr ⟨(hw _ w_48), rfl, hnm⟩) (hw _ w_35) (ty := (.object "java/lang/String")) (by decide) (nar_refv hvv rfl) (fits_refv hvv rfl) (g := (mkF m 11 #[.val (.ref a), .val vn, .val vv, .val .null, .val (.int (0 : Int32)), .val (.int (0 : Int32)), .val vd, .val .null] [vv, (.ref a)])) rfl rfl (hb hby d8_11)
  refine Fin.go st3 ?_
  have N3 := Fr.snoc X3 N2 na
  have O3 := O2.wr W3 na
  have K3 := K2.wr W3 (Or.inl (List.mem_of_getElem? (i := 0) rfl))
  have F3_a_name := ((F_name.same W2).other W3 (Or.inr (slot_ne (Or.inr (hw _ w_46)) (Or.inr (hw _ w_48)) (by decide) (t := (.object "java/lang/String")) (t' := (.object "java/lang/String")) (by decide) (by decide))))
  have F3_a_fallback := (F2_a_fallback.other W3 (Or.inr (slot_ne (Or.inr (hw _ w_50)) (Or.inr (hw _ w_48)) (by decide) (t := (.object "java/lang/String")) (t' := (.object "java/lang/String")) (by decide) (by decide))))
  have F3_a_required := (F2_a_required.other W3 (Or.inr (slot_ne (Or.inr (hw _ w_52)) (Or.inr (hw _ w_48)) (by decide) (t := .boolean) (t' := (.object "java/lang/String")) (by decide) (by decide))))
  have F3_a_repeatable := (F2_a_repeatable.other W3 (Or.inr (slot_ne (Or.inr (hw _ w_54)) (Or.inr (hw _ w_48)) (by decide) (t := .boolean) (t' := (.object "java/lang/String")) (by decide) (by decide))))
  have F3_a_description := (F2_a_description.other W3 (Or.inr (slot_ne (Or.inr (hw _ w_56)) (Or.inr (hw _ w_48)) (by decide) (t := (.object "java/lang/String")) (t' := (.object "java/lang/String")) (by decide) (by decide))))
  have F3_a_range := (F2_a_range.other W3 (Or.inr (slot_ne (Or.inr (hw _ w_58)) (Or.inr (hw _ w_48)) (by decide) (t := (.object "com/example/termspan/termspan/options/Option$Range")) (t' := (.object "java/lang/String")) (by decide) (by decide))))
  show Fin _ p e below s _ _ _ T3 (mkF m 14 #[.val (.ref a), .val vn, .val vv, .val .null, .val (.int (0 : Int32)), .val (.int (0 : Int32)), .val vd, .val .null] [])
  refine Fin.go (fun _ k => XS.aloadN X3.here hx rfl (hb hby d8_14) rfl rfl k) ?_
  show Fin _ p e below s _ _ _ T3 (mkF m 15 #[.val (.ref a), .val vn, .val vv, .val .null, .val (.int (0 : Int32)), .val (.int (0 : Int32)), .val vd, .val .null] [(.ref a)])
  refine Fin.go (fun _ k => XS.aloadN X3.here hx rfl (hb hby d8_15) rfl rfl k) ?_
  show Fin _ p e below s _ _ _ T3 (mkF m 16 #[.val (.ref a), .val vn, .val vv, .val .null, .val (.int (0 : Int32)), .val (.int (0 : Int32)), .val vd, .val .null] [.null, (.ref a)])
  obtain ⟨T4, h4, X4, e4, W4, st4⟩ := putF X3 hx hZ hown (host := "") (Or.inl (hw _ w_49)) Via.refl e3 F3_a_fallback ((A.wr W2).wr W3) (Or.inr ⟨(hw _ w_50), rfl, hnm⟩) (hw _ w_35) (ty := (.object "java/lang/String")) (by decide) rfl rfl (g := (mkF m 16 #[.val (.ref a), .val vn, .val vv, .val .null, .val (.int (0 : Int32)), .val (.int (0 : Int32)), .val vd, .val .null] [.null, (.ref a)])) rfl rfl (hb hby d8_16)
  refine Fin.go st4 ?_
  have N4 := Fr.snoc X4 N3 na
  have O4 := O3.wr W4 na
  have K4 := K3.wr W4 (Or.inl (List.mem_of_getElem? (i := 0) rfl))
  have F4_a_name := (F3_a_name.other W4 (Or.inr (slot_ne (Or.inr (hw _ w_46)) (Or.inr (hw _ w_50)) (by decide) (t := (.object "java/lang/String")) (t' := (.object "java/lang/String")) (by decide) (by decide))))
  have F4_a_value := ((F2_a_value.same W3).other W4 (Or.inr (slot_ne (Or.inr (hw _ w_48)) (Or.inr (hw _ w_50)) (by decide) (t := (.object "java/lang/String")) (t' := (.object "java/lang/String")) (by decide) (by decide))))
  have F4_a_required := (F3_a_required.other W4 (Or.inr (slot_ne (Or.inr (hw _ w_52)) (Or.inr (hw _ w_50)) (by decide) (t := .boolean) (t' := (.object "java/lang/String")) (by decide) (by decide))))
  have F4_a_repeatable := (F3_a_repeatable.other W4 (Or.inr (slot_ne (Or.inr (hw _ w_54)) (Or.inr (hw _ w_50)) (by decide) (t := .boolean) (t' := (.object "java/lang/String")) (by decide) (by decide))))
  have F4_a_description := (F3_a_description.other W4 (Or.inr (slot_ne (Or.inr (hw _ w_56)) (Or.inr (hw _ w_50)) (by decide) (t := (.object "java/lang/String")) (t' := (.object "java/lang/String")) (by decide) (by decide))))
  have F4_a_range := (F3_a_range.other W4 (Or.inr (slot_ne (Or.inr (hw _ w_58)) (Or.inr (hw _ w_50)) (by decide) (t := (.object "com/example/termspan/termspan/options/Option$Range")) (t' := (.object "java/lang/String")) (by decide) (by decide))))
  show Fin _ p e below s _ _ _ T4 (mkF m 19 #[.val (.ref a), .val vn, .val vv, .val .null, .val (.int (0 : Int32)), .val (.int (0 : Int32)), .val vd, .val .null] [])
  refine Fin.go (fun _ k => XS.aloadN X4.here hx rfl (hb hby d8_19) rfl rfl k) ?_
  show Fin _ p e below s _ _ _ T4 (mkF m 20 #[.val (.ref a), .val vn, .val vv, .val .null, .val (.int (0 : Int32)), .val (.int (0 : Int32)), .val vd, .val .null] [(.ref a)])
  refine Fin.go (fun _ k => XS.iload X4.here hx rfl (hb hby d8_20) rfl k) ?_
  show Fin _ p e below s _ _ _ T4 (mkF m 22 #[.val (.ref a), .val vn, .val vv, .val .null, .val (.int (0 : Int32)), .val (.int (0 : Int32)), .val vd, .val .null] [(.int (0 : Int32)), (.ref a)])
  obtain ⟨T5, h5, X5, e5, W5, st5⟩ := putF X4 hx hZ hown (host := "") (Or.inl (hw _ w_51)) Via.refl e4 F4_a_required (((A.wr W2).wr W3).wr W4) (Or.inr ⟨(hw _ w_52), rfl, hnm⟩) (hw _ w_35) (ty := .boolean) (by decide) rfl rfl (g := (mkF m 22 #[.val (.ref a), .val vn, .val vv, .val .null, .val (.int (0 : Int32)), .val (.int (0 : Int32)), .val vd, .val .null] [(.int (0 : Int32)), (.ref a)])) rfl rfl (hb hby d8_22)
  refine Fin.go st5 ?_
  have N5 := Fr.snoc X5 N4 na
  have O5 := O4.wr W5 na
  have K5 := K4.wr W5 (Or.inl (List.mem_of_getElem? (i := 0) rfl))
  have F5_a_name := (F4_a_name.other W5 (Or.inr (slot_ne (Or.inr (hw _ w_46)) (Or.inr (hw _ w_52)) (by decide) (t := (.object "java/lang/String")) (t' := .boolean) (by decide) (by decide))))
  have F5_a_value := (F4_a_value.other W5 (Or.inr (slot_ne (Or.inr (hw _ w_48)) (Or.inr (hw _ w_52)) (by decide) (t := (.object "java/lang/String")) (t' := .boolean) (by decide) (by decide))))
  have F5_a_fallback := ((F3_a_fallback.same W4).other W5 (Or.inr (slot_ne (Or.inr (hw _ w_50)) (Or.inr (hw _ w_52)) (by decide) (t := (.object "java/lang/String")) (t' := .boolean) (by decide) (by decide))))
  have F5_a_repeatable := (F4_a_repeatable.other W5 (Or.inr (slot_ne (Or.inr (hw _ w_54)) (Or.inr (hw _ w_52)) (by decide) (t := .boolean) (t' := .boolean) (by decide) (by decide))))
  have F5_a_description := (F4_a_description.other W5 (Or.inr (slot_ne (Or.inr (hw _ w_56)) (Or.inr (hw _ w_52)) (by decide) (t := (.object "java/lang/String")) (t' := .boolean) (by decide) (by decide))))
  have F5_a_range := (F4_a_range.other W5 (Or.inr (slot_ne (Or.inr (hw _ w_58)) (Or.inr (hw _ w_52)) (by decide) (t := (.object "com/example/termspan/termspan/options/Option$Range")) (t' := .boolean) (by decide) (by decide))))
  show Fin _ p e below s _ _ _ T5 (mkF m 25 #[.val (.ref a), .val vn, .val vv, .val .null, .val (.int (0 : Int32)), .val (.int (0 : Int32)), .val vd, .val .null] [])
  refine Fin.go (fun _ k => XS.aloadN X5.here hx rfl (hb hby d8_25) rfl rfl k) ?_
  show Fin _ p e below s _ _ _ T5 (mkF m 26 #[.val (.ref a), .val vn, .val vv, .val .null, .val (.int (0 : Int32)), .val (.int (0 : Int32)), .val vd, .val .null] [(.ref a)])
  refine Fin.go (fun _ k => XS.iload X5.here hx rfl (hb hby d8_26) rfl k) ?_
  show Fin _ p e below s _ _ _ T5 (mkF m 28 #[.val (.ref a), .val vn, .val vv, .val .null, .val (.int (0 : Int32)), .val (.int (0 : Int32)), .val vd, .val .null] [(.int (0 : Int32)), (.ref a)])
  obtain ⟨T6, h6, X6, e6, W6, st6⟩ := putF X5 hx hZ hown (host := "") (Or.inl (hw _ w_53)) Via.refl e5 F5_a_repeatable ((((A.wr W2).wr W3).wr W4).wr W5) (Or.inr ⟨(hw _ w_54), rfl, hnm⟩) (hw _ w_35) (ty := .boolean) (by decide) rfl rfl (g := (mkF m 28 #[.val (.ref a), .val vn, .val vv, .val .null, .val (.int (0 : Int32)), .val (.int (0 : Int32)), .val vd, .val .null] [(.int (0 : Int32)), (.ref a)])) rfl rfl (hb hby d8_28)
  refine Fin.go st6 ?_
  have N6 := Fr.snoc X6 N5 na
  have O6 := O5.wr W6 na
  have K6 := K5.wr W6 (Or.inl (List.mem_of_getElem? (i := 0) rfl))
  have F6_a_name := (F5_a_name.other W6 (Or.inr (slot_ne (Or.inr (hw _ w_46)) (Or.inr (hw _ w_54)) (by decide) (t := (.object "java/lang/String")) (t' := .boolean) (by decide) (by decide))))
  have F6_a_value := (F5_a_value.other W6 (Or.inr (slot_ne (Or.inr (hw _ w_48)) (Or.inr (hw _ w_54)) (by decide) (t := (.object "java/lang/String")) (t' := .boolean) (by decide) (by decide))))
  have F6_a_fallback := (F5_a_fallback.other W6 (Or.inr (slot_ne (Or.inr (hw _ w_50)) (Or.inr (hw _ w_54)) (by decide) (t := (.object "java/lang/String")) (t' := .boolean) (by decide) (by decide))))
  have F6_a_required := ((F4_a_required.same W5).other W6 (Or.inr (slot_ne (Or.inr (hw _ w_52)) (Or.inr (hw _ w_54)) (by decide) (t := .boolean) (t' := .boolean) (by decide) (by decide))))
  have F6_a_description := (F5_a_description.other W6 (Or.inr (slot_ne (Or.inr (hw _ w_56)) (Or.inr (hw _ w_54)) (by decide) (t := (.object "java/lang/String")) (t' := .boolean) (by decide) (by decide))))
  have F6_a_range := (F5_a_range.other W6 (Or.inr (slot_ne (Or.inr (hw _ w_58)) (Or.inr (hw _ w_54)) (by decide) (t := (.object "com/example/termspan/termspan/options/Option$Range")) (t' := .boolean) (by decide) (by decide))))
  show Fin _ p e below s _ _ _ T6 (mkF m 31 #[.val (.ref a), .val vn, .val vv, .val .null, .val (.int (0 : Int32)), .val (.int (0 : Int32)), .val vd, .val .null] [])
  refine Fin.go (fun _ k => XS.aloadN X6.here hx rfl (hb hby d8_31) rfl rfl k) ?_
  show Fin _ p e below s _ _ _ T6 (mkF m 32 #[.val (.ref a), .val vn, .val vv, .val .null, .val (.int (0 : Int32)), .val (.int (0 : Int32)), .val vd, .val .null] [(.ref a)])
  refine Fin.go (fun _ k => XS.aload X6.here hx rfl (hb hby d8_32) rfl hvd k) ?_
  show Fin _ p e below s _ _ _ T6 (mkF m 34 #[.val (.ref a), .val vn, .val vv, .val .null, .val (.int (0 : Int32)), .val (.int (0 : Int32)), .val vd, .val .null] [vd, (.ref a)])
  obtain ⟨T7, h7, X7, e7, W7, st7⟩ := putF X6 hx hZ hown (host := "") (Or.inl (hw _ w_55)) Via.refl e6 F6_a_description (((((A.wr W2).wr W3).wr W4).wr W5).wr W6) (Or.inr ⟨(hw _ w_56), rfl, hnm⟩) (hw _ w_35) (ty := (.object "java/lang/String")) (by decide) (nar_refv hvd rfl) (fits_refv hvd rfl) (g := (mkF m 34 #[.val (.ref a), .val vn, .val vv, .val .null, .val (.int (0 : Int32)), .val (.int (0 : Int32)), .val vd, .val .null] [vd, (.ref a)])) rfl rfl (hb hby d8_34)
  refine Fin.go st7 ?_
  have N7 := Fr.snoc X7 N6 na
  have O7 := O6.wr W7 na
  have K7 := K6.wr W7 (Or.inl (List.mem_of_getElem? (i := 0) rfl))
  have F7_a_name := (F6_a_name.other W7 (Or.inr (slot_ne (Or.inr (hw _ w_46)) (Or.inr (hw _ w_56)) (by decide) (t := (.object "java/lang/String")) (t' := (.object "java/lang/String")) (by decide) (by decide))))
  have F7_a_value := (F6_a_value.other W7 (Or.inr (slot_ne (Or.inr (hw _ w_48)) (Or.inr (hw _ w_56)) (by decide) (t := (.object "java/lang/String")) (t' := (.object "java/lang/String")) (by decide) (by decide))))
  have F7_a_fallback := (F6_a_fallback.other W7 (Or.inr (slot_ne (Or.inr (hw _ w_50)) (Or.inr (hw _ w_56)) (by decide) (t := (.object "java/lang/String")) (t' := (.object "java/lang/String")) (by decide) (by decide))))
  have F7_a_required := (F6_a_required.other W7 (Or.inr (slot_ne (Or.inr (hw _ w_52)) (Or.inr (hw _ w_56)) (by decide) (t := .boolean) (t' := (.object "java/lang/String")) (by decide) (by decide))))
  have F7_a_repeatable := ((F5_a_repeatable.same W6).other W7 (Or.inr (slot_ne (Or.inr (hw _ w_54)) (Or.inr (hw _ w_56)) (by decide) (t := .boolean) (t' := (.object "java/lang/String")) (by decide) (by decide))))
  have F7_a_range := (F6_a_range.other W7 (Or.inr (slot_ne (Or.inr (hw _ w_58)) (Or.inr (hw _ w_56)) (by decide) (t := (.object "com/example/termspan/termspan/options/Option$Range")) (t' := (.object "java/lang/String")) (by decide) (by decide))))
  show Fin _ p e below s _ _ _ T7 (mkF m 37 #[.val (.ref a), .val vn, .val vv, .val .null, .val (.int (0 : Int32)), .val (.int (0 : Int32)), .val vd, .val .null] [])
  refine Fin.go (fun _ k => XS.aloadN X7.here hx rfl (hb hby d8_37) rfl rfl k) ?_
  show Fin _ p e below s _ _ _ T7 (mkF m 38 #[.val (.ref a), .val vn, .val vv, .val .null, .val (.int (0 : Int32)), .val (.int (0 : Int32)), .val vd, .val .null] [(.ref a)])
  refine Fin.go (fun _ k => XS.aload X7.here hx rfl (hb hby d8_38) rfl rfl k) ?_
  show Fin _ p e below s _ _ _ T7 (mkF m 40 #[.val (.ref a), .val vn, .val vv, .val .null, .val (.int (0 : Int32)), .val (.int (0 : Int32)), .val vd, .val .null] [.null, (.ref a)])
  obtain ⟨T8, h8, X8, e8, W8, st8⟩ := putF X7 hx hZ hown (host := "") (Or.inl (hw _ w_57)) Via.refl e7 F7_a_range ((((((A.wr W2).wr W3).wr W4).wr W5).wr W6).wr W7) (Or.inr ⟨(hw _ w_58), rfl, hnm⟩) (hw _ w_35) (ty := (.object "com/example/termspan/termspan/options/Option$Range")) (by decide) rfl rfl (g := (mkF m 40 #[.val (.ref a), .val vn, .val vv, .val .null, .val (.int (0 : Int32)), .val (.int (0 : Int32)), .val vd, .val .null] [.null, (.ref a)])) rfl rfl (hb hby d8_40)
  refine Fin.go st8 ?_
  have N8 := Fr.snoc X8 N7 na
  have O8 := O7.wr W8 na
  have K8 := K7.wr W8 (Or.inl (List.mem_of_getElem? (i := 0) rfl))
  have F8_a_name := (F7_a_name.other W8 (Or.inr (slot_ne (Or.inr (hw _ w_46)) (Or.inr (hw _ w_58)) (by decide) (t := (.object "java/lang/String")) (t' := (.object "com/example/termspan/termspan/options/Option$Range")) (by decide) (by decide))))
  have F8_a_value := (F7_a_value.other W8 (Or.inr (slot_ne (Or.inr (hw _ w_48)) (Or.inr (hw _ w_58)) (by decide) (t := (.object "java/lang/String")) (t' := (.object "com/example/termspan/termspan/options/Option$Range")) (by decide) (by decide))))
  have F8_a_fallback := (F7_a_fallback.other W8 (Or.inr (slot_ne (Or.inr (hw _ w_50)) (Or.inr (hw _ w_58)) (by decide) (t := (.object "java/lang/String")) (t' := (.object "com/example/termspan/termspan/options/Option$Range")) (by decide) (by decide))))
  have F8_a_required := (F7_a_required.other W8 (Or.inr (slot_ne (Or.inr (hw _ w_52)) (Or.inr (hw _ w_58)) (by decide) (t := .boolean) (t' := (.object "com/example/termspan/termspan/options/Option$Range")) (by decide) (by decide))))
  have F8_a_repeatable := (F7_a_repeatable.other W8 (Or.inr (slot_ne (Or.inr (hw _ w_54)) (Or.inr (hw _ w_58)) (by decide) (t := .boolean) (t' := (.object "com/example/termspan/termspan/options/Option$Range")) (by decide) (by decide))))
  have F8_a_description := ((F6_a_description.same W7).other W8 (Or.inr (slot_ne (Or.inr (hw _ w_56)) (Or.inr (hw _ w_58)) (by decide) (t := (.object "java/lang/String")) (t' := (.object "com/example/termspan/termspan/options/Option$Range")) (by decide) (by decide))))
  show Fin _ p e below s _ _ _ T8 (mkF m 43 #[.val (.ref a), .val vn, .val vv, .val .null, .val (.int (0 : Int32)), .val (.int (0 : Int32)), .val vd, .val .null] [])
  exact Fin.leaveN X8 e8 hlk (v := none) (fun _ => rfl) (by decide) (by decide) ⟨rfl, N8, K8, (((((((A.wr W2).wr W3).wr W4).wr W5).wr W6).wr W7).wr W8), F8_a_name, F8_a_value, F8_a_fallback, F8_a_required, F8_a_repeatable, F8_a_description, (F7_a_range.same W8)⟩ (fun fs hr => X8.returnOut hx hret (hb hby d8_43) hr)
set_option maxRecDepth 65536 in
set_option maxHeartbeats 40000000 in
theorem rmOpt (l : Launch) (Z : State) (a0 : Array Value) (hw : ∀ d ∈ tables_1, d.before a0 Z = true) (n0 : Nat) (h0 : Heap) (O : Old Z n0 h0) (vn vv vd : Value) (hvn : vn.isRef = true) (hvv : vv.isRef = true) (hvd : vd.isRef = true) :
    ConW FrameEnd l Z [] (⟨"com/example/termspan/termspan/options/Option", "optional", "(Ljava/lang/String;Ljava/lang/String;Ljava/lang/String;)Lcom/example/termspan/termspan/options/Option;"⟩ : MethodName) prog_31_method_4_code 3 (some (.object "com/example/termspan/termspan/options/Option")) ({ frames := 3, cells := 1, slots := 7, locals := 44 } : Room) #[vn, vv, vd] h0 (fun v h L => ∃ o, v = some (.ref o) ∧ Fr n0 L ∧ Keep h0 h [] ∧ Exa Z h o "com/example/termspan/termspan/options/Option" ∧ Fld Z h o "com/example/termspan/termspan/options/Option" "name" "Ljava/lang/String;" vn ∧ Fld Z h o "com/example/termspan/termspan/options/Option" "value" "Ljava/lang/String;" vv ∧ Fld Z h o "com/example/termspan/termspan/options/Option" "fallback" "Ljava/lang/String;" .null ∧ Fld Z h o "com/example/termspan/termspan/options/Option" "required" "Z" (.int (0 : Int32)) ∧ Fld Z h o "com/example/termspan/termspan/options/Option" "repeatable" "Z" (.int (0 : Int32)) ∧ Fld Z h o "com/example/termspan/termspan/options/Option" "description" "Ljava/lang/String;" vd ∧ Fld Z h o "com/example/termspan/termspan/options/Option" "range" "Lcom/example/termspan/termspan/options/Option$Range;" .null) := by
  refine conOf (plainFor_of_name pn_com_example_termspan_termspan_options_Option) ?_
  intro p e s m below mth cc s₁ X0 hx hby hml hown hnm hret hlk hZ e0
  have N0 := Fr.nil n0
  have K0 := Keep.refl h0 ([] : List Addr)
  refine Fin.came (castTop (t := _) (by rcases ref_cases hvn with rfl | ⟨_, rfl⟩ <;> rcases ref_cases hvv with rfl | ⟨_, rfl⟩ <;> rcases ref_cases hvd with rfl | ⟨_, rfl⟩ <;> rfl) (Steps.refl _) : Steps p.tables e below (s₁.setTop (entryFrame m #[vn, vv, vd] 3)) (s₁.setTop (mkF m 0 #[.val vn, .val vv, .val vd] []))) ?_
  show Fin _ p e below s _ _ _ s₁ (mkF m 0 #[.val vn, .val vv, .val vd] [])
  obtain ⟨T1, h1, X1, e1, E1, A1, D1, U1, st1⟩ := newO X0 hx hZ hown (hw _ w_34) (hw _ w_35) (hw _ w_32) e0 (g := (mkF m 0 #[.val vn, .val vv, .val vd] [])) rfl (hb hby d7_0) (by decide) (by decide)
  obtain ⟨a1, g1⟩ : ∃ z, z = h0.size := ⟨_, rfl⟩
  rw [← g1] at A1 D1 U1 st1
  refine Fin.go st1 ?_
  have O1 := O.ext E1
  have K1 := K0.ext E1
  have n1 : n0 ≤ a1 := by have := O.2.1; have := O.1; omega
  have z1 : h0.size ≤ a1 := by have := K0.1; omega
  have F1_name : Fld Z h1 a1 "com/example/termspan/termspan/options/Option" "name" "Ljava/lang/String;" .null := D1 (Or.inr (hw _ w_46)) (ty := (.object "java/lang/String")) (by decide)
  have F1_value : Fld Z h1 a1 "com/example/termspan/termspan/options/Option" "value" "Ljava/lang/String;" .null := D1 (Or.inr (hw _ w_48)) (ty := (.object "java/lang/String")) (by decide)
  have F1_fallback : Fld Z h1 a1 "com/example/termspan/termspan/options/Option" "fallback" "Ljava/lang/String;" .null := D1 (Or.inr (hw _ w_50)) (ty := (.object "java/lang/String")) (by decide)
  have F1_required : Fld Z h1 a1 "com/example/termspan/termspan/options/Option" "required" "Z" (.int (0 : Int32)) := D1 (Or.inr (hw _ w_52)) (ty := .boolean) (by decide)
  have F1_repeatable : Fld Z h1 a1 "com/example/termspan/termspan/options/Option" "repeatable" "Z" (.int (0 : Int32)) := D1 (Or.inr (hw _ w_54)) (ty := .boolean) (by decide)
  have F1_description : Fld Z h1 a1 "com/example/termspan/termspan/options/Option" "description" "Ljava/lang/String;" .null := D1 (Or.inr (hw _ w_56)) (ty := (.object "java/lang/String")) (by decide)
  have F1_range : Fld Z h1 a1 "com/example/termspan/termspan/options/Option" "range" "Lcom/example/termspan/termspan/options/Option$Range;" .null := D1 (Or.inr (hw _ w_58)) (ty := (.object "com/example/termspan/termspan/options/Option$Range")) (by decide)
  show Fin _ p e below s _ _ _ T1 (mkF m 3 #[.val vn, .val vv, .val vd] [(.ref a1)])
  refine Fin.go (fun _ k => XS.dup X1.here hx rfl (hb hby d7_3) rfl rfl k) ?_
  show Fin _ p e below s _ _ _ T1 (mkF m 4 #[.val vn, .val vv, .val vd] [(.ref a1), (.ref a1)])
  refine Fin.go (fun _ k => XS.aloadN X1.here hx rfl (hb hby d7_4) rfl hvn k) ?_
  show Fin _ p e below s _ _ _ T1 (mkF m 5 #[.val vn, .val vv, .val vd] [vn, (.ref a1), (.ref a1)])
  refine Fin.go (fun _ k => XS.aloadN X1.here hx rfl (hb hby d7_5) rfl hvv k) ?_
  show Fin _ p e below s _ _ _ T1 (mkF m 6 #[.val vn, .val vv, .val vd] [vv, vn, (.ref a1), (.ref a1)])
  refine Fin.go (fun _ k => XS.aconstNull X1.here hx rfl (hb hby d7_6) k) ?_
  show Fin _ p e below s _ _ _ T1 (mkF m 7 #[.val vn, .val vv, .val vd] [.null, vv, vn, (.ref a1), (.ref a1)])
  refine Fin.go (fun _ k => XS.iconst X1.here hx rfl (hb hby d7_7) k) ?_
  show Fin _ p e below s _ _ _ T1 (mkF m 8 #[.val vn, .val vv, .val vd] [(.int (0 : Int32)), .null, vv, vn, (.ref a1), (.ref a1)])
  refine Fin.go (fun _ k => XS.iconst X1.here hx rfl (hb hby d7_8) k) ?_
  show Fin _ p e below s _ _ _ T1 (mkF m 9 #[.val vn, .val vv, .val vd] [(.int (0 : Int32)), (.int (0 : Int32)), .null, vv, vn, (.ref a1), (.ref a1)])
  refine Fin.go (fun _ k => XS.aloadN X1.here hx rfl (hb hby d7_9) rfl hvd k) ?_
  show Fin _ p e below s _ _ _ T1 (mkF m 10 #[.val vn, .val vv, .val vd] [vd, (.int (0 : Int32)), (.int (0 : Int32)), .null, vv, vn, (.ref a1), (.ref a1)])
  refine Fin.go (fun _ k => XS.aconstNull X1.here hx rfl (hb hby d7_10) k) ?_
  show Fin _ p e below s _ _ _ T1 (mkF m 11 #[.val vn, .val vv, .val vd] [.null, vd, (.int (0 : Int32)), (.int (0 : Int32)), .null, vv, vn, (.ref a1), (.ref a1)])
  obtain ⟨v2, T2, L2, X2, q2, st2⟩ := callCt X1 hx hZ (y := (⟨"com/example/termspan/termspan/options/Option", "<init>", "(Ljava/lang/String;Ljava/lang/String;Ljava/lang/String;ZZLjava/lang/String;Lcom/example/termspan/termspan/options/Option$Range;)V"⟩ : MethodName)) rfl hown (hw _ w_36) (hw _ w_37) (hw _ w_32) (hw _ w_38) (by decide) (W := 1) (rmOI l Z a0 hw n0 h1 O1 a1 vn vv vd hvn hvv hvd A1 F1_name F1_value F1_fallback F1_required F1_repeatable F1_description F1_range n1) e1 (by decide) (by decide) (by decide) (by decide) (g := (mkF m 11 #[.val vn, .val vv, .val vd] [.null, vd, (.int (0 : Int32)), (.int (0 : Int32)), .null, vv, vn, (.ref a1), (.ref a1)])) rfl (by rw [hml]; rfl) (a := a1) (argsL := [vn, vv, .null, (.int (0 : Int32)), (.int (0 : Int32)), vd, .null]) (rest := [(.ref a1)]) (lenOf pd_oLjava_lang_String_Ljava_lang_String_Ljava_lang_String_ZZLjava_lang_String_Lcom_example_termspan_termspan_options_OptionxRange_cV rfl) rfl (by show 2 * 0 + _ ≤ _; exact Nat.le_of_eq rfl) (hb hby d7_11)
  obtain ⟨rfl, Nq2, Kq2, A2, G2_name, G2_value, G2_fallback, G2_required, G2_repeatable, G2_description, G2_range⟩ := q2
  have N2 := Fr.app N0 Nq2
  have O2 := O1.keep Kq2 (allS n1 all0)
  have K2 := K1.trans Kq2 (allS (Or.inr z1) all0)
  refine Fin.go st2 ?_
  show Fin _ p e below s _ _ _ T2 (mkF m 14 #[.val vn, .val vv, .val vd] [(.ref a1)])
  exact Fin.leaveN X2 (rfl : T2.heap = T2.heap) hlk (v := some (.ref a1)) (fun h => by rw [hret] at h; cases h) (by decide) (by decide) ⟨a1, rfl, N2, K2, A2, G2_name, G2_value, G2_fallback, G2_required, G2_repeatable, G2_description, G2_range⟩ (fun fs hr => retOut X2 hx hret rfl (Or.inr (Or.inr (Or.inr (Or.inr ⟨rfl, rfl, rfl⟩)))) (hb hby d7_14) hr)
set_option maxRecDepth 65536 in
set_option maxHeartbeats 40000000 in
theorem rmG_name (l : Launch) (Z : State) (a0 : Array Value) (hw : ∀ d ∈ tables_1, d.before a0 Z = true) (n0 : Nat) (h0 : Heap) (O : Old Z n0 h0) (a : Addr) (v : Value) (hv : v.isRef = true) (F : Fld Z h0 a "com/example/termspan/termspan/options/Option" "name" "Ljava/lang/String;" v) :
    ConW FrameEnd l Z [] (⟨"com/example/termspan/termspan/options/Option", "name", "()Ljava/lang/String;"⟩ : MethodName) prog_31_method_20_code 1 (some (.object "java/lang/String")) ({ frames := 0, cells := 0, slots := 0, locals := 0 } : Room) #[(.ref a)] h0 (Pure h0 (some v)) := by
  refine conOf (plainFor_of_name pn_com_example_termspan_termspan_options_Option) ?_
  intro p e s m below mth cc s₁ X0 hx hby hml hown hnm hret hlk hZ e0
  have N0 := Fr.nil n0
  refine Fin.came (castTop (t := _) (by first | (simp [entryFrame, mkF, argsToLocals, Value.category]; done) | rfl) (Steps.refl _) : Steps p.tables e below (s₁.setTop (entryFrame m #[(.ref a)] 1)) (s₁.setTop (mkF m 0 #[.val (.ref a)] []))) ?_
  show Fin _ p e below s _ _ _ s₁ (mkF m 0 #[.val (.ref a)] [])
  refine Fin.go (fun _ k => XS.aloadN X0.here hx rfl (hb hby d10_0) rfl rfl k) ?_
  show Fin _ p e below s _ _ _ s₁ (mkF m 1 #[.val (.ref a)] [(.ref a)])
  obtain ⟨T1, X1, e1, st1⟩ := getF X0 hx hZ hown (host := "") (Or.inl (hw _ w_45)) Via.refl e0 F (g := (mkF m 1 #[.val (.ref a)] [(.ref a)])) rfl rfl (hb hby d10_1)
  refine Fin.go st1 ?_
  show Fin _ p e below s _ _ _ T1 (mkF m 4 #[.val (.ref a)] [v])
  exact Fin.leaveN X1 e1 hlk (v := some v) (fun h => by rw [hret] at h; cases h) (by decide) (by decide) ⟨rfl, rfl, rfl⟩ (fun fs hr => retOut X1 hx hret (nar_refv hv rfl) (Or.inr (Or.inr (Or.inr (Or.inr ⟨rfl, rfl, hv⟩)))) (hb hby d10_4) hr)
set_option maxRecDepth 65536 in
set_option maxHeartbeats 40000000 in
theorem rmG_value (l : Launch) (Z : State) (a0 : Array Value) (hw : ∀ d ∈ tables_1, d.before a0 Z = true) (n0 : Nat) (h0 : Heap) (O : Old Z n0 h0) (a : Addr) (v : Value) (hv : v.isRef = true) (F : Fld Z h0 a "com/example/termspan/termspan/options/Option" "value" "Ljava/lang/String;" v) :
    ConW FrameEnd l Z [] (⟨"com/example/termspan/termspan/options/Option", "value", "()Ljava/lang/String;"⟩ : MethodName) prog_31_method_21_code 1 (some (.object "java/lang/String")) ({ frames := 0, cells := 0, slots := 0, locals := 0 } : Room) #[(.ref a)] h0 (Pure h0 (some v)) := by
  refine conOf (plainFor_of_name pn_com_example_termspan_termspan_options_Option) ?_
  intro p e s m below mth cc s₁ X0 hx hby hml hown hnm hret hlk hZ e0
  have N0 := Fr.nil n0
  refine Fin.came (castTop (t := _) (by first | (simp [entryFrame, mkF, argsToLocals, Value.category]; done) | rfl) (Steps.refl _) : Steps p.tables e below (s₁.setTop (entryFrame m #[(.ref a)] 1)) (s₁.setTop (mkF m 0 #[.val (.ref a)] []))) ?_
  show Fin _ p e below s _ _ _ s₁ (mkF m 0 #[.val (.ref a)] [])
  refine Fin.go (fun _ k => XS.aloadN X0.here hx rfl (hb hby d11_0) rfl rfl k) ?_
  show Fin _ p e below s _ _ _ s₁ (mkF m 1 #[.val (.ref a)] [(.ref a)])
  obtain ⟨T1, X1, e1, st1⟩ := getF X0 hx hZ hown (host := "") (Or.inl (hw _ w_47)) Via.refl e0 F (g := (mkF m 1 #[.val (.ref a)] [(.ref a)])) rfl rfl (hb hby d11_1)
  refine Fin.go st1 ?_
  show Fin _ p e below s _ _ _ T1 (mkF m 4 #[.val (.ref a)] [v])
  exact Fin.leaveN X1 e1 hlk (v := some v) (fun h => by rw [hret] at h; cases h) (by decide) (by decide) ⟨rfl, rfl, rfl⟩ (fun fs hr => retOut X1 hx hret (nar_refv hv rfl) (Or.inr (Or.inr (Or.inr (Or.inr ⟨rfl, rfl, hv⟩)))) (hb hby d11_4) hr)
set_option maxRecDepth 65536 in
set_option maxHeartbeats 40000000 in
theorem rmG_fallback (l : Launch) (Z : State) (a0 : Array Value) (hw : ∀ d ∈ tables_1, d.before a0 Z = true) (n0 : Nat) (h0 : Heap) (O : Old Z n0 h0) (a : Addr) (v : Value) (hv : v.isRef = true) (F : Fld Z h0 a "com/example/termspan/termspan/options/Option" "fallback" "Ljava/lang/String;" v) :
    ConW FrameEnd l Z [] (⟨"com/example/termspan/termspan/options/Option", "fallback", "()Ljava/lang/String;"⟩ : MethodName) prog_31_method_22_code 1 (some (.object "java/lang/String")) ({ frames := 0, cells := 0, slots := 0, locals := 0 } : Room) #[(.ref a)] h0 (Pure h0 (some v)) := by
  refine conOf (plainFor_of_name pn_com_example_termspan_termspan_options_Option) ?_
  intro p e s m below mth cc s₁ X0 hx hby hml hown hnm hret hlk hZ e0
  have N0 := Fr.nil n0
  refine Fin.came (castTop (t := _) (by first | (simp [entryFrame, mkF, argsToLocals, Value.category]; done) | rfl) (Steps.refl _) : Steps p.tables e below (s₁.setTop (entryFrame m #[(.ref a)] 1)) (s₁.setTop (mkF m 0 #[.val (.ref a)] []))) ?_
  show Fin _ p e below s _ _ _ s₁ (mkF m 0 #[.val (.ref a)] [])
  refine Fin.go (fun _ k => XS.aloadN X0.here hx rfl (hb hby d12_0) rfl rfl k) ?_
  show Fin _ p e below s _ _ _ s₁ (mkF m 1 #[.val (.ref a)] [(.ref a)])
  obtain ⟨T1, X1, e1, st1⟩ := getF X0 hx hZ hown (host := "") (Or.inl (hw _ w_49)) Via.refl e0 F (g := (mkF m 1 #[.val (.ref a)] [(.ref a)])) rfl rfl (hb hby d12_1)
  refine Fin.go st1 ?_
  show Fin _ p e below s _ _ _ T1 (mkF m 4 #[.val (.ref a)] [v])
  exact Fin.leaveN X1 e1 hlk (v := some v) (fun h => by rw [hret] at h; cases h) (by decide) (by decide) ⟨rfl, rfl, rfl⟩ (fun fs hr => retOut X1 hx hret (nar_refv hv rfl) (Or.inr (Or.inr (Or.inr (Or.inr ⟨rfl, rfl, hv⟩)))) (hb hby d12_4) hr)
set_option maxRecDepth 65536 in
set_option maxHeartbeats 40000000 in
theorem rmG_description (l : Launch) (Z : State) (a0 : Array Value) (hw : ∀ d ∈ tables_1, d.before a0 Z = true) (n0 : Nat) (h0 : Heap) (O : Old Z n0 h0) (a : Addr) (v : Value) (hv : v.isRef = true) (F : Fld Z h0 a "com/example/termspan/termspan/options/Option" "description" "Ljava/lang/String;" v) :
    ConW FrameEnd l Z [] (⟨"com/example/termspan/termspan/options/Option", "description", "()Ljava/lang/String;"⟩ : MethodName) prog_31_method_25_code 1 (some (.object "java/lang/String")) ({ frames := 0, cells := 0, slots := 0, locals := 0 } : Room) #[(.ref a)] h0 (Pure h0 (some v)) := by
  refine conOf (plainFor_of_name pn_com_example_termspan_termspan_options_Option) ?_
  intro p e s m below mth cc s₁ X0 hx hby hml hown hnm hret hlk hZ e0
  have N0 := Fr.nil n0
  refine Fin.came (castTop (t := _) (by first | (simp [entryFrame, mkF, argsToLocals, Value.category]; done) | rfl) (Steps.refl _) : Steps p.tables e below (s₁.setTop (entryFrame m #[(.ref a)] 1)) (s₁.setTop (mkF m 0 #[.val (.ref a)] []))) ?_
  show Fin _ p e below s _ _ _ s₁ (mkF m 0 #[.val (.ref a)] [])
  refine Fin.go (fun _ k => XS.aloadN X0.here hx rfl (hb hby d15_0) rfl rfl k) ?_
  show Fin _ p e below s _ _ _ s₁ (mkF m 1 #[.val (.ref a)] [(.ref a)])
  obtain ⟨T1, X1, e1, st1⟩ := getF X0 hx hZ hown (host := "") (Or.inl (hw _ w_55)) Via.refl e0 F (g := (mkF m 1 #[.val (.ref a)] [(.ref a)])) rfl rfl (hb hby d15_1)
  refine Fin.go st1 ?_
  show Fin _ p e below s _ _ _ T1 (mkF m 4 #[.val (.ref a)] [v])
  exact Fin.leaveN X1 e1 hlk (v := some v) (fun h => by rw [hret] at h; cases h) (by decide) (by decide) ⟨rfl, rfl, rfl⟩ (fun fs hr => retOut X1 hx hret (nar_refv hv rfl) (Or.inr (Or.inr (Or.inr (Or.inr ⟨rfl, rfl, hv⟩)))) (hb hby d15_4) hr)
set_option maxRecDepth 65536 in
set_option maxHeartbeats 40000000 in
theorem rmG_range (l : Launch) (Z : State) (a0 : Array Value) (hw : ∀ d ∈ tables_1, d.before a0 Z = true) (n0 : Nat) (h0 : Heap) (O : Old Z n0 h0) (a : Addr) (v : Value) (hv : v.isRef = true) (F : Fld Z h0 a "com/example/termspan/termspan/options/Option" "range" "Lcom/example/termspan/termspan/options/Option$Range;" v) :
    ConW FrameEnd l Z [] (⟨"com/example/termspan/termspan/options/Option", "range", "()Lcom/example/termspan/termspan/options/Option$Range;"⟩ : MethodName) prog_31_method_26_code 1 (some (.object "com/example/termspan/termspan/options/Option$Range")) ({ frames := 0, cells := 0, slots := 0, locals := 0 } : Room) #[(.ref a)] h0 (Pure h0 (some v)) := by
  refine conOf (plainFor_of_name pn_com_example_termspan_termspan_options_Option) ?_
  intro p e s m below mth cc s₁ X0 hx hby hml hown hnm hret hlk hZ e0
  have N0 := Fr.nil n0
  refine Fin.came (castTop (t := _) (by first | (simp [entryFrame, mkF, argsToLocals, Value.category]; done) | rfl) (Steps.refl _) : Steps p.tables e below (s₁.setTop (entryFrame m #[(.ref a)] 1)) (s₁.setTop (mkF m 0 #[.val (.ref a)] []))) ?_
  show Fin _ p e below s _ _ _ s₁ (mkF m 0 #[.val (.ref a)] [])
  refine Fin.go (fun _ k => XS.aloadN X0.here hx rfl (hb hby d16_0) rfl rfl k) ?_
  show Fin _ p e below s _ _ _ s₁ (mkF m 1 #[.val (.ref a)] [(.ref a)])
  obtain ⟨T1, X1, e1, st1⟩ := getF X0 hx hZ hown (host := "") (Or.inl (hw _ w_57)) Via.refl e0 F (g := (mkF m 1 #[.val (.ref a)] [(.ref a)])) rfl rfl (hb hby d16_1)
  refine Fin.go st1 ?_
  show Fin _ p e below s _ _ _ T1 (mkF m 4 #[.val (.ref a)] [v])
  exact Fin.leaveN X1 e1 hlk (v := some v) (fun h => by rw [hret] at h; cases h) (by decide) (by decide) ⟨rfl, rfl, rfl⟩ (fun fs hr => retOut X1 hx hret (nar_refv hv rfl) (Or.inr (Or.inr (Or.inr (Or.inr ⟨rfl, rfl, hv⟩)))) (hb hby d16_4) hr)
set_option maxRecDepth 65536 in
set_option maxHeartbeats 40000000 in
theorem rmG_required (l : Launch) (Z : State) (a0 : Array Value) (hw : ∀ d ∈ tables_1, d.before a0 Z = true) (n0 : Nat) (h0 : Heap) (O : Old Z n0 h0) (a : Addr) (F : Fld Z h0 a "com/example/termspan/termspan/options/Option" "required" "Z" (.int (0 : Int32))) :
    ConW FrameEnd l Z [] (⟨"com/example/termspan/termspan/options/Option", "required", "()Z"⟩ : MethodName) prog_31_method_23_code 1 (some .boolean) ({ frames := 0, cells := 0, slots := 0, locals := 0 } : Room) #[(.ref a)] h0 (Pure h0 (some (.int (0 : Int32)))) := by
  refine conOf (plainFor_of_name pn_com_example_termspan_termspan_options_Option) ?_
  intro p e s m below mth cc s₁ X0 hx hby hml hown hnm hret hlk hZ e0
  have N0 := Fr.nil n0
  refine Fin.came (castTop (t := _) (by first | (simp [entryFrame, mkF, argsToLocals, Value.category]; done) | rfl) (Steps.refl _) : Steps p.tables e below (s₁.setTop (entryFrame m #[(.ref a)] 1)) (s₁.setTop (mkF m 0 #[.val (.ref a)] []))) ?_
  show Fin _ p e below s _ _ _ s₁ (mkF m 0 #[.val (.ref a)] [])
  refine Fin.go (fun _ k => XS.aloadN X0.here hx rfl (hb hby d13_0) rfl rfl k) ?_
  show Fin _ p e below s _ _ _ s₁ (mkF m 1 #[.val (.ref a)] [(.ref a)])
  obtain ⟨T1, X1, e1, st1⟩ := getF X0 hx hZ hown (host := "") (Or.inl (hw _ w_51)) Via.refl e0 F (g := (mkF m 1 #[.val (.ref a)] [(.ref a)])) rfl rfl (hb hby d13_1)
  refine Fin.go st1 ?_
  show Fin _ p e below s _ _ _ T1 (mkF m 4 #[.val (.ref a)] [(.int (0 : Int32))])
  exact Fin.leaveN X1 e1 hlk (v := some (.int (nar .boolean (0 : Int32)))) (fun h => by rw [hret] at h; cases h) (by decide) (by decide) ⟨rfl, rfl, rfl⟩ (fun fs hr => retN X1 hx (t := .boolean) hret (by simp) (hb hby d13_4) hr)
set_option maxRecDepth 65536 in
set_option maxHeartbeats 40000000 in
theorem rmG_repeatable (l : Launch) (Z : State) (a0 : Array Value) (hw : ∀ d ∈ tables_1, d.before a0 Z = true) (n0 : Nat) (h0 : Heap) (O : Old Z n0 h0) (a : Addr) (F : Fld Z h0 a "com/example/termspan/termspan/options/Option" "repeatable" "Z" (.int (0 : Int32))) :
    ConW FrameEnd l Z [] (⟨"com/example/termspan/termspan/options/Option", "repeatable", "()Z"⟩ : MethodName) prog_31_method_24_code 1 (some .boolean) ({ frames := 0, cells := 0, slots := 0, locals := 0 } : Room) #[(.ref a)] h0 (Pure h0 (some (.int (0 : Int32)))) := by
  refine conOf (plainFor_of_name pn_com_example_termspan_termspan_options_Option) ?_
  intro p e s m below mth cc s₁ X0 hx hby hml hown hnm hret hlk hZ e0
  have N0 := Fr.nil n0
  refine Fin.came (castTop (t := _) (by first | (simp [entryFrame, mkF, argsToLocals, Value.category]; done) | rfl) (Steps.refl _) : Steps p.tables e below (s₁.setTop (entryFrame m #[(.ref a)] 1)) (s₁.setTop (mkF m 0 #[.val (.ref a)] []))) ?_
  show Fin _ p e below s _ _ _ s₁ (mkF m 0 #[.val (.ref a)] [])
  refine Fin.go (fun _ k => XS.aloadN X0.here hx rfl (hb hby d14_0) rfl rfl k) ?_
  show Fin _ p e below s _ _ _ s₁ (mkF m 1 #[.val (.ref a)] [(.ref a)])
  obtain ⟨T1, X1, e1, st1⟩ := getF X0 hx hZ hown (host := "") (Or.inl (hw _ w_53)) Via.refl e0 F (g := (mkF m 1 #[.val (.ref a)] [(.ref a)])) rfl rfl (hb hby d14_1)
  refine Fin.go st1 ?_
  show Fin _ p e below s _ _ _ T1 (mkF m 4 #[.val (.ref a)] [(.int (0 : Int32))])
  exact Fin.leaveN X1 e1 hlk (v := some (.int (nar .boolean (0 : Int32)))) (fun h => by rw [hret] at h; cases h) (by decide) (by decide) ⟨rfl, rfl, rfl⟩ (fun fs hr => retN X1 hx (t := .boolean) hret (by simp) (hb hby d14_4) hr)
set_option maxRecDepth 65536 in
set_option maxHeartbeats 40000000 in
theorem rmFlN (l : Launch) (Z : State) (a0 : Array Value) (hw : ∀ d ∈ tables_1, d.before a0 Z = true) (n0 : Nat) (h0 : Heap) (O : Old Z n0 h0) (a b : Addr) (F : Fld Z h0 a "com/example/termspan/termspan/options/Option" "value" "Ljava/lang/String;" .null) :
    ConW FrameEnd l Z [] (⟨"com/example/termspan/termspan/options/Option", "isFlag", "()Z"⟩ : MethodName) prog_31_method_12_code 1 (some .boolean) ({ frames := 0, cells := 0, slots := 0, locals := 0 } : Room) #[(.ref a)] h0 (Pure h0 (some (.int (1 : Int32)))) := by
  refine conOf (plainFor_of_name pn_com_example_termspan_termspan_options_Option) ?_
  intro p e s m below mth cc s₁ X0 hx hby hml hown hnm hret hlk hZ e0
  have N0 := Fr.nil n0
  refine Fin.came (castTop (t := _) (by first | (simp [entryFrame, mkF, argsToLocals, Value.category]; done) | rfl) (Steps.refl _) : Steps p.tables e below (s₁.setTop (entryFrame m #[(.ref a)] 1)) (s₁.setTop (mkF m 0 #[.val (.ref a)] []))) ?_
  show Fin _ p e below s _ _ _ s₁ (mkF m 0 #[.val (.ref a)] [])
  refine Fin.go (fun _ k => XS.aloadN X0.here hx rfl (hb hby d17_0) rfl rfl k) ?_
  show Fin _ p e below s _ _ _ s₁ (mkF m 1 #[.val (.ref a)] [(.ref a)])
  obtain ⟨T1, X1, e1, st1⟩ := getF X0 hx hZ hown (host := "") (Or.inl (hw _ w_47)) Via.refl e0 F (g := (mkF m 1 #[.val (.ref a)] [(.ref a)])) rfl rfl (hb hby d17_1)
  refine Fin.go st1 ?_
  show Fin _ p e below s _ _ _ T1 (mkF m 4 #[.val (.ref a)] [.null])
  refine Fin.go (fun _ k => XT.ifnonnullNo X1.here hx rfl (hb hby d17_4) rfl k) ?_
  show Fin _ p e below s _ _ _ T1 (mkF m 7 #[.val (.ref a)] [])
  refine Fin.go (fun _ k => XS.iconst X1.here hx rfl (hb hby d17_7) k) ?_
  show Fin _ p e below s _ _ _ T1 (mkF m 8 #[.val (.ref a)] [(.int (1 : Int32))])
  refine Fin.go (fun _ k => XS.goto X1.here hx rfl (pc0 := 8) (pc' := 12) rfl (hb hby d17_8) (by decide) (by decide) k) ?_
  show Fin _ p e below s _ _ _ T1 (mkF m 12 #[.val (.ref a)] [(.int (1 : Int32))])
  exact Fin.leaveN X1 e1 hlk (v := some (.int (nar .boolean (1 : Int32)))) (fun h => by rw [hret] at h; cases h) (by decide) (by decide) ⟨rfl, rfl, rfl⟩ (fun fs hr => retN X1 hx (t := .boolean) hret (by simp) (hb hby d17_12) hr)
set_option maxRecDepth 65536 in
set_option maxHeartbeats 40000000 in
theorem rmFlR (l : Launch) (Z : State) (a0 : Array Value) (hw : ∀ d ∈ tables_1, d.before a0 Z = true) (n0 : Nat) (h0 : Heap) (O : Old Z n0 h0) (a b : Addr) (F : Fld Z h0 a "com/example/termspan/termspan/options/Option" "value" "Ljava/lang/String;" (.ref b)) :
    ConW FrameEnd l Z [] (⟨"com/example/termspan/termspan/options/Option", "isFlag", "()Z"⟩ : MethodName) prog_31_method_12_code 1 (some .boolean) ({ frames := 0, cells := 0, slots := 0, locals := 0 } : Room) #[(.ref a)] h0 (Pure h0 (some (.int (0 : Int32)))) := by
  refine conOf (plainFor_of_name pn_com_example_termspan_termspan_options_Option) ?_
  intro p e s m below mth cc s₁ X0 hx hby hml hown hnm hret hlk hZ e0
  have N0 := Fr.nil n0
  refine Fin.came (castTop (t := _) (by first | (simp [entryFrame, mkF, argsToLocals, Value.category]; done) | rfl) (Steps.refl _) : Steps p.tables e below (s₁.setTop (entryFrame m #[(.ref a)] 1)) (s₁.setTop (mkF m 0 #[.val (.ref a)] []))) ?_
  show Fin _ p e below s _ _ _ s₁ (mkF m 0 #[.val (.ref a)] [])
  refine Fin.go (fun _ k => XS.aloadN X0.here hx rfl (hb hby d17_0) rfl rfl k) ?_
  show Fin _ p e below s _ _ _ s₁ (mkF m 1 #[.val (.ref a)] [(.ref a)])
  obtain ⟨T1, X1, e1, st1⟩ := getF X0 hx hZ hown (host := "") (Or.inl (hw _ w_47)) Via.refl e0 F (g := (mkF m 1 #[.val (.ref a)] [(.ref a)])) rfl rfl (hb hby d17_1)
  refine Fin.go st1 ?_
  show Fin _ p e below s _ _ _ T1 (mkF m 4 #[.val (.ref a)] [(.ref b)])
  refine Fin.go (fun _ k => XT.ifnonnullYes X1.here hx rfl (pc0 := 4) (pc' := 11) rfl (hb hby d17_4) rfl (by decide) (by decide) k) ?_
  show Fin _ p e below s _ _ _ T1 (mkF m 11 #[.val (.ref a)] [])
  refine Fin.go (fun _ k => XS.iconst X1.here hx rfl (hb hby d17_11) k) ?_
  show Fin _ p e below s _ _ _ T1 (mkF m 12 #[.val (.ref a)] [(.int (0 : Int32))])
  exact Fin.leaveN X1 e1 hlk (v := some (.int (nar .boolean (0 : Int32)))) (fun h => by rw [hret] at h; cases h) (by decide) (by decide) ⟨rfl, rfl, rfl⟩ (fun fs hr => retN X1 hx (t := .boolean) hret (by simp) (hb hby d17_12) hr)
set_option maxRecDepth 65536 in
set_option maxHeartbeats 40000000 in
theorem law (l : Launch) (Z : State) (a0 : Array Value) (hw : ∀ d ∈ tables_1, d.before a0 Z = true) (n0 : Nat) (h0 : Heap) (O : Old Z n0 h0) (p0 p1 p2 p3 : Int32) (cs : Int32) (S_cs : Sta Z Z.heap "java/lang/String" "COMPACT_STRINGS" "Z" (.int cs)) (hcs : ¬ cs = 0) :
    ConHW l Z EL tables_1 x code maxLocals ret room_1 #[(.int p0), (.int p1), (.int p2), (.int p3)] h0 (fun v h L => v = some (.int 1) ∧ Fr n0 L) := by
  refine conOfH (plainFor_of_name pn_com_example_termspan_termspan_options_OptionOptionalPinLaw) ?_
  intro p e s m below mth cc s₁ X0 hx hby hml hown hnm hret hlk hZ e0 hS RR0
  have N0 := Fr.nil n0
  have hEL := elW hw
  refine Fin.came (castTop (t := _) (by first | (simp [entryFrame, mkF, argsToLocals, Value.category, maxLocals]; done) | rfl) (Steps.refl _) : Steps p.tables e below (s₁.setTop (entryFrame m #[(.int p0), (.int p1), (.int p2), (.int p3)] maxLocals)) (s₁.setTop (mkF m 0 #[.val (.int p0), .val (.int p1), .val (.int p2), .val (.int p3), .unset, .unset, .unset, .unset] []))) ?_
  show Fin _ p e below s _ _ _ s₁ (mkF m 0 #[.val (.int p0), .val (.int p1), .val (.int p2), .val (.int p3), .unset, .unset, .unset, .unset] [])
  obtain ⟨T1, h1, X1, e1, E1, A1, D1, U1, st1⟩ := newO X0 hx hZ hown (hw _ w_0) (hw _ w_1) (hw _ w_2) e0 (g := (mkF m 0 #[.val (.int p0), .val (.int p1), .val (.int p2), .val (.int p3), .unset, .unset, .unset, .unset] [])) rfl (hb hby at_0) (by decide) (by decide)
  obtain ⟨a1, g1⟩ : ∃ z, z = h0.size := ⟨_, rfl⟩
  rw [← g1] at A1 D1 U1 st1
  refine Fin.go st1 ?_
  have O1 := O.ext E1
  have hk1 := Nat.le_trans (Nat.zero_le _) E1.1
  have RR1 := RR0.trans (CHr.ext E1 RR0.1)
  have n1 : n0 ≤ a1 := by have := O.2.1; have := O.1; omega
  have sf1 := (Safe.new (Z := Z) (EL := EL) (vm := s.vm) (Nat.le_of_eq g1.symm)).ext E1 RR0.1
  have F1_coder : Fld Z h1 a1 "java/lang/String" "coder" "B" (.int (0 : Int32)) := D1 (Or.inr (hw _ w_27)) (ty := .byte) (by decide)
  have F1_value : Fld Z h1 a1 "java/lang/String" "value" "[B" .null := D1 (Or.inr (hw _ w_29)) (ty := (.array .byte)) (by decide)
  show Fin _ p e below s _ _ _ T1 (mkF m 3 #[.val (.int p0), .val (.int p1), .val (.int p2), .val (.int p3), .unset, .unset, .unset, .unset] [(.ref a1)])
  refine Fin.go (fun _ k => XS.dup X1.here hx rfl (hb hby at_3) rfl rfl k) ?_
  show Fin _ p e below s _ _ _ T1 (mkF m 4 #[.val (.int p0), .val (.int p1), .val (.int p2), .val (.int p3), .unset, .unset, .unset, .unset] [(.ref a1), (.ref a1)])
  refine Fin.go (fun _ k => XS.iconst X1.here hx rfl (hb hby at_4) k) ?_
  show Fin _ p e below s _ _ _ T1 (mkF m 5 #[.val (.int p0), .val (.int p1), .val (.int p2), .val (.int p3), .unset, .unset, .unset, .unset] [(.int (2 : Int32)), (.ref a1), (.ref a1)])
  obtain ⟨T2, h2, k2, X2, e2, E2, A2, st2⟩ := newP X1 hx hZ (aty := .char) (hw _ w_3) e1 (g := (mkF m 5 #[.val (.int p0), .val (.int p1), .val (.int p2), .val (.int p3), .unset, .unset, .unset, .unset] [(.int (2 : Int32)), (.ref a1), (.ref a1)])) rfl (hb hby at_5) rfl (by decide : ¬ ((2 : Int32) < (0 : Int32))) (cap := 2) (by decide) (by decide) (by decide) (by decide)
  obtain ⟨a2, g2⟩ : ∃ z, z = h1.size := ⟨_, rfl⟩
  rw [← g2] at A2 st2
  refine Fin.go st2 ?_
  have O2 := O1.ext E2
  have hk2 := Nat.le_trans hk1 E2.1
  have RR2 := RR1.trans (CHr.ext E2 RR1.1)
  have n2 : n0 ≤ a2 := by have := O1.2.1; have := O1.1; omega
  have V2 : Arv Z h2 a2 k2 .char (2 : Int32) [(.int (0 : Int32)), (.int (0 : Int32))] (.int (0 : Int32)) := (Arv.new A2 (by decide)).pad (pad_rep [] (.int (0 : Int32)) 2)
  show Fin _ p e below s _ _ _ T2 (mkF m 7 #[.val (.int p0), .val (.int p1), .val (.int p2), .val (.int p3), .unset, .unset, .unset, .unset] [(.ref a2), (.ref a1), (.ref a1)])
  refine Fin.go (fun _ k => XS.dup X2.here hx rfl (hb hby at_7) rfl rfl k) ?_
  show Fin _ p e below s _ _ _ T2 (mkF m 8 #[.val (.int p0), .val (.int p1), .val (.int p2), .val (.int p3), .unset, .unset, .unset, .unset] [(.ref a2), (.ref a2), (.ref a1), (.ref a1)])
  refine Fin.go (fun _ k => XS.iconst X2.here hx rfl (hb hby at_8) k) ?_
  show Fin _ p e below s _ _ _ T2 (mkF m 9 #[.val (.int p0), .val (.int p1), .val (.int p2), .val (.int p3), .unset, .unset, .unset, .unset] [(.int (0 : Int32)), (.ref a2), (.ref a2), (.ref a1), (.ref a1)])
  refine Fin.go (fun _ k => XS.iloadN X2.here hx rfl (hb hby at_9) rfl k) ?_
  show Fin _ p e below s _ _ _ T2 (mkF m 10 #[.val (.int p0), .val (.int p1), .val (.int p2), .val (.int p3), .unset, .unset, .unset, .unset] [(.int p0), (.int (0 : Int32)), (.ref a2), (.ref a2), (.ref a1), (.ref a1)])
  refine Fin.go (fun _ k => XS.sipush X2.here hx rfl (hb hby at_10) k) ?_
  show Fin _ p e below s _ _ _ T2 (mkF m 13 #[.val (.int p0), .val (.int p1), .val (.int p2), .val (.int p3), .unset, .unset, .unset, .unset] [(.int (255 : Int32)), (.int p0), (.int (0 : Int32)), (.ref a2), (.ref a2), (.ref a1), (.ref a1)])
  refine Fin.go (fun _ k => XS.iand X2.here hx rfl (hb hby at_13) rfl k) ?_
  show Fin _ p e below s _ _ _ T2 (mkF m 14 #[.val (.int p0), .val (.int p1), .val (.int p2), .val (.int p3), .unset, .unset, .unset, .unset] [(.int (p0 &&& (255 : Int32))), (.int (0 : Int32)), (.ref a2), (.ref a2), (.ref a1), (.ref a1)])
  refine Fin.go (fun _ k => XT.i2c X2.here hx rfl (hb hby at_14) rfl k) ?_
  show Fin _ p e below s _ _ _ T2 (mkF m 15 #[.val (.int p0), .val (.int p1), .val (.int p2), .val (.int p3), .unset, .unset, .unset, .unset] [(.int ((Int32.toUInt32 (p0 &&& (255 : Int32))).toUInt16.toUInt32.toInt32)), (.int (0 : Int32)), (.ref a2), (.ref a2), (.ref a1), (.ref a1)])
  obtain ⟨c3, B3, q3, S3, M3, H3, G3⟩ := id V2
  obtain ⟨T3, h3, X3, e3, W3, st3⟩ := stC X2 hx hZ e2 B3 (j := (0 : Int32)) (inb_of S3 ⟨(by decide : ¬ ((0 : Int32) < (0 : Int32))), (by decide : (0 : Int32) < (2 : Int32))⟩) (g := (mkF m 15 #[.val (.int p0), .val (.int p1), .val (.int p2), .val (.int p3), .unset, .unset, .unset, .unset] [(.int ((Int32.toUInt32 (p0 &&& (255 : Int32))).toUInt16.toUInt32.toInt32)), (.int (0 : Int32)), (.ref a2), (.ref a2), (.ref a1), (.ref a1)])) rfl rfl (hb hby at_15)
  refine Fin.go st3 ?_
  have V3 : Arv Z h3 a2 k2 .char (2 : Int32) [(.int ((Int32.toUInt32 (p0 &&& (255 : Int32))).toUInt16.toUInt32.toInt32)), (.int (0 : Int32))] (.int (0 : Int32)) := (by have q : Arv Z h3 a2 k2 .char (2 : Int32) [(.int (nar .char ((Int32.toUInt32 (p0 &&& (255 : Int32))).toUInt16.toUInt32.toInt32))), (.int (0 : Int32))] (.int (0 : Int32)) := (Arv.set B3 q3 S3 M3 H3 G3 (fits_nar_char _) W3 0 rfl (Nat.le_of_ble_eq_true rfl)); rwa [nar_c16] at q)
  have N3 := Fr.snoc X3 N0 n2
  have O3 := O2.wr W3 n2
  have hk3 := Nat.le_trans hk2 (Keep.of_wr W3).1
  have RR3 := RR2.trans (CHr.wr W3 (Safe.arv hZ.alike V2 (by decide)) RR2.1)
  have sf3_a1 := (Safe.wr W3 (Safe.arv hZ.alike V2 (by decide)) RR2.1 (sf1.ext E2 RR1.1))
  have F3_a1_coder := ((F1_coder.ext E2).other W3 (Or.inl (Nat.ne_of_lt (Nat.lt_of_lt_of_eq A1.lt g2.symm))))
  have F3_a1_value := ((F1_value.ext E2).other W3 (Or.inl (Nat.ne_of_lt (Nat.lt_of_lt_of_eq A1.lt g2.symm))))
  show Fin _ p e below s _ _ _ T3 (mkF m 16 #[.val (.int p0), .val (.int p1), .val (.int p2), .val (.int p3), .unset, .unset, .unset, .unset] [(.ref a2), (.ref a1), (.ref a1)])
  refine Fin.go (fun _ k => XS.dup X3.here hx rfl (hb hby at_16) rfl rfl k) ?_
  show Fin _ p e below s _ _ _ T3 (mkF m 17 #[.val (.int p0), .val (.int p1), .val (.int p2), .val (.int p3), .unset, .unset, .unset, .unset] [(.ref a2), (.ref a2), (.ref a1), (.ref a1)])
  refine Fin.go (fun _ k => XS.iconst X3.here hx rfl (hb hby at_17) k) ?_
  show Fin _ p e below s _ _ _ T3 (mkF m 18 #[.val (.int p0), .val (.int p1), .val (.int p2), .val (.int p3), .unset, .unset, .unset, .unset] [(.int (1 : Int32)), (.ref a2), (.ref a2), (.ref a1), (.ref a1)])
  refine Fin.go (fun _ k => XS.iloadN X3.here hx rfl (hb hby at_18) rfl k) ?_
  show Fin _ p e below s _ _ _ T3 (mkF m 19 #[.val (.int p0), .val (.int p1), .val (.int p2), .val (.int p3), .unset, .unset, .unset, .unset] [(.int p0), (.int (1 : Int32)), (.ref a2), (.ref a2), (.ref a1), (.ref a1)])
  refine Fin.go (fun _ k => XS.bipush X3.here hx rfl (hb hby at_19) k) ?_
  show Fin _ p e below s _ _ _ T3 (mkF m 21 #[.val (.int p0), .val (.int p1), .val (.int p2), .val (.int p3), .unset, .unset, .unset, .unset] [(.int (8 : Int32)), (.int p0), (.int (1 : Int32)), (.ref a2), (.ref a2), (.ref a1), (.ref a1)])
  refine Fin.go (fun _ k => XT.iushr X3.here hx rfl (hb hby at_21) rfl k) ?_
  show Fin _ p e below s _ _ _ T3 (mkF m 22 #[.val (.int p0), .val (.int p1), .val (.int p2), .val (.int p3), .unset, .unset, .unset, .unset] [(.int (XT.ushr p0 (8 : Int32))), (.int (1 : Int32)), (.ref a2), (.ref a2), (.ref a1), (.ref a1)])
  refine Fin.go (fun _ k => XS.sipush X3.here hx rfl (hb hby at_22) k) ?_
  show Fin _ p e below s _ _ _ T3 (mkF m 25 #[.val (.int p0), .val (.int p1), .val (.int p2), .val (.int p3), .unset, .unset, .unset, .unset] [(.int (255 : Int32)), (.int (XT.ushr p0 (8 : Int32))), (.int (1 : Int32)), (.ref a2), (.ref a2), (.ref a1), (.ref a1)])
  refine Fin.go (fun _ k => XS.iand X3.here hx rfl (hb hby at_25) rfl k) ?_
  show Fin _ p e below s _ _ _ T3 (mkF m 26 #[.val (.int p0), .val (.int p1), .val (.int p2), .val (.int p3), .unset, .unset, .unset, .unset] [(.int ((XT.ushr p0 (8 : Int32)) &&& (255 : Int32))), (.int (1 : Int32)), (.ref a2), (.ref a2), (.ref a1), (.ref a1)])
  refine Fin.go (fun _ k => XT.i2c X3.here hx rfl (hb hby at_26) rfl k) ?_
  show Fin _ p e below s _ _ _ T3 (mkF m 27 #[.val (.int p0), .val (.int p1), .val (.int p2), .val (.int p3), .unset, .unset, .unset, .unset] [(.int ((Int32.toUInt32 ((XT.ushr p0 (8 : Int32)) &&& (255 : Int32))).toUInt16.toUInt32.toInt32)), (.int (1 : Int32)), (.ref a2), (.ref a2), (.ref a1), (.ref a1)])
  obtain ⟨c4, B4, q4, S4, M4, H4, G4⟩ := id V3
  obtain ⟨T4, h4, X4, e4, W4, st4⟩ := stC X3 hx hZ e3 B4 (j := (1 : Int32)) (inb_of S4 ⟨(by decide : ¬ ((1 : Int32) < (0 : Int32))), (by decide : (1 : Int32) < (2 : Int32))⟩) (g := (mkF m 27 #[.val (.int p0), .val (.int p1), .val (.int p2), .val (.int p3), .unset, .unset, .unset, .unset] [(.int ((Int32.toUInt32 ((XT.ushr p0 (8 : Int32)) &&& (255 : Int32))).toUInt16.toUInt32.toInt32)), (.int (1 : Int32)), (.ref a2), (.ref a2), (.ref a1), (.ref a1)])) rfl rfl (hb hby at_27)
  refine Fin.go st4 ?_
  have V4 : Arv Z h4 a2 k2 .char (2 : Int32) [(.int ((Int32.toUInt32 (p0 &&& (255 : Int32))).toUInt16.toUInt32.toInt32)), (.int ((Int32.toUInt32 ((XT.ushr p0 (8 : Int32)) &&& (255 : Int32))).toUInt16.toUInt32.toInt32))] (.int (0 : Int32)) := (by have q : Arv Z h4 a2 k2 .char (2 : Int32) [(.int ((Int32.toUInt32 (p0 &&& (255 : Int32))).toUInt16.toUInt32.toInt32)), (.int (nar .char ((Int32.toUInt32 ((XT.ushr p0 (8 : Int32)) &&& (255 : Int32))).toUInt16.toUInt32.toInt32)))] (.int (0 : Int32)) := (Arv.set B4 q4 S4 M4 H4 G4 (fits_nar_char _) W4 1 rfl (Nat.le_of_ble_eq_true rfl)); rwa [nar_c16] at q)
  have N4 := Fr.snoc X4 N3 n2
  have O4 := O3.wr W4 n2
  have hk4 := Nat.le_trans hk3 (Keep.of_wr W4).1
  have RR4 := RR3.trans (CHr.wr W4 (Safe.arv hZ.alike V3 (by decide)) RR3.1)
  have F4_a1_coder := (F3_a1_coder.other W4 (Or.inl (Nat.ne_of_lt (Nat.lt_of_lt_of_eq A1.lt g2.symm))))
  have F4_a1_value := (F3_a1_value.other W4 (Or.inl (Nat.ne_of_lt (Nat.lt_of_lt_of_eq A1.lt g2.symm))))
  show Fin _ p e below s _ _ _ T4 (mkF m 28 #[.val (.int p0), .val (.int p1), .val (.int p2), .val (.int p3), .unset, .unset, .unset, .unset] [(.ref a2), (.ref a1), (.ref a1)])
  obtain ⟨v5, T5, L5, X5, q5, st5⟩ := callCt X4 hx hZ (y := (⟨"java/lang/String", "<init>", "([C)V"⟩ : MethodName)) rfl hown (hw _ w_4) (hw _ w_5) (hw _ w_2) (hw _ w_6) (by decide) (W := 1) (rmStr2 l Z a0 hw n0 h4 O4 a1 a2 k2 ((Int32.toUInt32 (p0 &&& (255 : Int32))).toUInt16.toUInt32.toInt32) ((Int32.toUInt32 ((XT.ushr p0 (8 : Int32)) &&& (255 : Int32))).toUInt16.toUInt32.toInt32) cs S_cs hcs V4 (((A1.ext E2).wr W3).wr W4) F4_a1_coder F4_a1_value (and255 _) (and255 _) n1 (Ne.symm (Nat.ne_of_lt (Nat.lt_of_lt_of_eq A1.lt g2.symm)))) e4 (by decide) (by decide) (by decide) (by decide) (g := (mkF m 28 #[.val (.int p0), .val (.int p1), .val (.int p2), .val (.int p3), .unset, .unset, .unset, .unset] [(.ref a2), (.ref a1), (.ref a1)])) rfl (by rw [hml]; rfl) (a := a1) (argsL := [(.ref a2)]) (rest := [(.ref a1)]) (lenOf pd_oACcV rfl) rfl (by show 2 * 0 + _ ≤ _; exact Nat.le_of_eq rfl) (hb hby at_28)
  obtain ⟨rfl, Nq5, Kq5, A5, C5, d5, kd5, F5, V5, zd5⟩ := q5
  have N5 := Fr.app N4 Nq5
  have O5 := O4.keep Kq5 (allS n1 all0)
  have RR5 := RR4.trans (CHr.keep Kq5 (sfS (Safe.wr W4 (Safe.arv hZ.alike V3 (by decide)) RR3.1 sf3_a1) sf0) RR4.1)
  have hk5 := Nat.le_trans hk4 Kq5.1
  refine Fin.go st5 ?_
  have sf5_a1 := (Safe.keep Kq5 (sfS (Safe.wr W4 (Safe.arv hZ.alike V3 (by decide)) RR3.1 sf3_a1) sf0) RR4.1 (Safe.wr W4 (Safe.arv hZ.alike V3 (by decide)) RR3.1 sf3_a1))
  have V5_a2 := (V4.keep Kq5 (ninS (Ne.symm (Nat.ne_of_lt (Nat.lt_of_lt_of_eq A1.lt g2.symm))) nin0))
  show Fin _ p e below s _ _ _ T5 (mkF m 31 #[.val (.int p0), .val (.int p1), .val (.int p2), .val (.int p3), .unset, .unset, .unset, .unset] [(.ref a1)])
  have nzd5 : n0 ≤ d5 := Nat.le_trans (by have := O4.1; have := O4.2.1; omega) zd5
  refine Fin.go (fun _ k => XS.astore X5.here hx rfl (hb hby at_31) rfl rfl (l' := #[.val (.int p0), .val (.int p1), .val (.int p2), .val (.int p3), .val (.ref a1), .unset, .unset, .unset]) rfl k) ?_
  show Fin _ p e below s _ _ _ T5 (mkF m 33 #[.val (.int p0), .val (.int p1), .val (.int p2), .val (.int p3), .val (.ref a1), .unset, .unset, .unset] [])
  refine Fin.go (fun _ k => XS.iloadN X5.here hx rfl (hb hby at_33) rfl k) ?_
  show Fin _ p e below s _ _ _ T5 (mkF m 34 #[.val (.int p0), .val (.int p1), .val (.int p2), .val (.int p3), .val (.ref a1), .unset, .unset, .unset] [(.int p3)])
  refine Fin.go (fun _ k => XS.iconst X5.here hx rfl (hb hby at_34) k) ?_
  show Fin _ p e below s _ _ _ T5 (mkF m 35 #[.val (.int p0), .val (.int p1), .val (.int p2), .val (.int p3), .val (.ref a1), .unset, .unset, .unset] [(.int (1 : Int32)), (.int p3)])
  refine Fin.go (fun _ k => XS.iand X5.here hx rfl (hb hby at_35) rfl k) ?_
  show Fin _ p e below s _ _ _ T5 (mkF m 36 #[.val (.int p0), .val (.int p1), .val (.int p2), .val (.int p3), .val (.ref a1), .unset, .unset, .unset] [(.int (p3 &&& (1 : Int32)))])
  by_cases c36 : (p3 &&& (1 : Int32)) = 0
  · refine Fin.go (fun _ k => XS.ifYes X5.here hx rfl (pc0 := 36) (pc' := 43) rfl (hb hby at_36) rfl (XT.i0_eq_t c36) (by decide) (by decide) k) ?_
    show Fin _ p e below s _ _ _ T5 (mkF m 43 #[.val (.int p0), .val (.int p1), .val (.int p2), .val (.int p3), .val (.ref a1), .unset, .unset, .unset] [])
    obtain ⟨T6, h6, X6, e6, E6, A6, D6, U6, st6⟩ := newO X5 hx hZ hown (hw _ w_0) (hw _ w_1) (hw _ w_2) (rfl : T5.heap = T5.heap) (g := (mkF m 43 #[.val (.int p0), .val (.int p1), .val (.int p2), .val (.int p3), .val (.ref a1), .unset, .unset, .unset] [])) rfl (hb hby at_43) (by decide) (by decide)
    obtain ⟨a6, g6⟩ : ∃ z, z = T5.heap.size := ⟨_, rfl⟩
    rw [← g6] at A6 D6 U6 st6
    refine Fin.go st6 ?_
    have O6 := O5.ext E6
    have hk6 := Nat.le_trans hk5 E6.1
    have RR6 := RR5.trans (CHr.ext E6 RR5.1)
    have n6 : n0 ≤ a6 := by have := O5.2.1; have := O5.1; omega
    have sf6 := (Safe.new (Z := Z) (EL := EL) (vm := s.vm) (Nat.le_of_eq g6.symm)).ext E6 RR5.1
    have F6_coder : Fld Z h6 a6 "java/lang/String" "coder" "B" (.int (0 : Int32)) := D6 (Or.inr (hw _ w_27)) (ty := .byte) (by decide)
    have F6_value : Fld Z h6 a6 "java/lang/String" "value" "[B" .null := D6 (Or.inr (hw _ w_29)) (ty := (.array .byte)) (by decide)
    show Fin _ p e below s _ _ _ T6 (mkF m 46 #[.val (.int p0), .val (.int p1), .val (.int p2), .val (.int p3), .val (.ref a1), .unset, .unset, .unset] [(.ref a6)])
    refine Fin.go (fun _ k => XS.dup X6.here hx rfl (hb hby at_46) rfl rfl k) ?_
    show Fin _ p e below s _ _ _ T6 (mkF m 47 #[.val (.int p0), .val (.int p1), .val (.int p2), .val (.int p3), .val (.ref a1), .unset, .unset, .unset] [(.ref a6), (.ref a6)])
    refine Fin.go (fun _ k => XS.iconst X6.here hx rfl (hb hby at_47) k) ?_
    show Fin _ p e below s _ _ _ T6 (mkF m 48 #[.val (.int p0), .val (.int p1), .val (.int p2), .val (.int p3), .val (.ref a1), .unset, .unset, .unset] [(.int (2 : Int32)), (.ref a6), (.ref a6)])
    obtain ⟨T7, h7, k7, X7, e7, E7, A7, st7⟩ := newP X6 hx hZ (aty := .char) (hw _ w_3) e6 (g := (mkF m 48 #[.val (.int p0), .val (.int p1), .val (.int p2), .val (.int p3), .val (.ref a1), .unset, .unset, .unset] [(.int (2 : Int32)), (.ref a6), (.ref a6)])) rfl (hb hby at_48) rfl (by decide : ¬ ((2 : Int32) < (0 : Int32))) (cap := 2) (by decide) (by decide) (by decide) (by decide)
    obtain ⟨a7, g7⟩ : ∃ z, z = h6.size := ⟨_, rfl⟩
    rw [← g7] at A7 st7
    refine Fin.go st7 ?_
    have O7 := O6.ext E7
    have hk7 := Nat.le_trans hk6 E7.1
    have RR7 := RR6.trans (CHr.ext E7 RR6.1)
    have n7 : n0 ≤ a7 := by have := O6.2.1; have := O6.1; omega
    have V7 : Arv Z h7 a7 k7 .char (2 : Int32) [(.int (0 : Int32)), (.int (0 : Int32))] (.int (0 : Int32)) := (Arv.new A7 (by decide)).pad (pad_rep [] (.int (0 : Int32)) 2)
    show Fin _ p e below s _ _ _ T7 (mkF m 50 #[.val (.int p0), .val (.int p1), .val (.int p2), .val (.int p3), .val (.ref a1), .unset, .unset, .unset] [(.ref a7), (.ref a6), (.ref a6)])
    refine Fin.go (fun _ k => XS.dup X7.here hx rfl (hb hby at_50) rfl rfl k) ?_
    show Fin _ p e below s _ _ _ T7 (mkF m 51 #[.val (.int p0), .val (.int p1), .val (.int p2), .val (.int p3), .val (.ref a1), .unset, .unset, .unset] [(.ref a7), (.ref a7), (.ref a6), (.ref a6)])
    refine Fin.go (fun _ k => XS.iconst X7.here hx rfl (hb hby at_51) k) ?_
    show Fin _ p e below s _ _ _ T7 (mkF m 52 #[.val (.int p0), .val (.int p1), .val (.int p2), .val (.int p3), .val (.ref a1), .unset, .unset, .unset] [(.int (0 : Int32)), (.ref a7), (.ref a7), (.ref a6), (.ref a6)])
    refine Fin.go (fun _ k => XS.iloadN X7.here hx rfl (hb hby at_52) rfl k) ?_
    show Fin _ p e below s _ _ _ T7 (mkF m 53 #[.val (.int p0), .val (.int p1), .val (.int p2), .val (.int p3), .val (.ref a1), .unset, .unset, .unset] [(.int p1), (.int (0 : Int32)), (.ref a7), (.ref a7), (.ref a6), (.ref a6)])
    refine Fin.go (fun _ k => XS.sipush X7.here hx rfl (hb hby at_53) k) ?_
    show Fin _ p e below s _ _ _ T7 (mkF m 56 #[.val (.int p0), .val (.int p1), .val (.int p2), .val (.int p3), .val (.ref a1), .unset, .unset, .unset] [(.int (255 : Int32)), (.int p1), (.int (0 : Int32)), (.ref a7), (.ref a7), (.ref a6), (.ref a6)])
    refine Fin.go (fun _ k => XS.iand X7.here hx rfl (hb hby at_56) rfl k) ?_
    show Fin _ p e below s _ _ _ T7 (mkF m 57 #[.val (.int p0), .val (.int p1), .val (.int p2), .val (.int p3), .val (.ref a1), .unset, .unset, .unset] [(.int (p1 &&& (255 : Int32))), (.int (0 : Int32)), (.ref a7), (.ref a7), (.ref a6), (.ref a6)])
    refine Fin.go (fun _ k => XT.i2c X7.here hx rfl (hb hby at_57) rfl k) ?_
    show Fin _ p e below s _ _ _ T7 (mkF m 58 #[.val (.int p0), .val (.int p1), .val (.int p2), .val (.int p3), .val (.ref a1), .unset, .unset, .unset] [(.int ((Int32.toUInt32 (p1 &&& (255 : Int32))).toUInt16.toUInt32.toInt32)), (.int (0 : Int32)), (.ref a7), (.ref a7), (.ref a6), (.ref a6)])
    obtain ⟨c8, B8, q8, S8, M8, H8, G8⟩ := id V7
    obtain ⟨T8, h8, X8, e8, W8, st8⟩ := stC X7 hx hZ e7 B8 (j := (0 : Int32)) (inb_of S8 ⟨(by decide : ¬ ((0 : Int32) < (0 : Int32))), (by decide : (0 : Int32) < (2 : Int32))⟩) (g := (mkF m 58 #[.val (.int p0), .val (.int p1), .val (.int p2), .val (.int p3), .val (.ref a1), .unset, .unset, .unset] [(.int ((Int32.toUInt32 (p1 &&& (255 : Int32))).toUInt16.toUInt32.toInt32)), (.int (0 : Int32)), (.ref a7), (.ref a7), (.ref a6), (.ref a6)])) rfl rfl (hb hby at_58)
    refine Fin.go st8 ?_
    have V8 : Arv Z h8 a7 k7 .char (2 : Int32) [(.int ((Int32.toUInt32 (p1 &&& (255 : Int32))).toUInt16.toUInt32.toInt32)), (.int (0 : Int32))] (.int (0 : Int32)) := (by have q : Arv Z h8 a7 k7 .char (2 : Int32) [(.int (nar .char ((Int32.toUInt32 (p1 &&& (255 : Int32))).toUInt16.toUInt32.toInt32))), (.int (0 : Int32))] (.int (0 : Int32)) := (Arv.set B8 q8 S8 M8 H8 G8 (fits_nar_char _) W8 0 rfl (Nat.le_of_ble_eq_true rfl)); rwa [nar_c16] at q)
    have N8 := Fr.snoc X8 N5 n7
    have O8 := O7.wr W8 n7
    have hk8 := Nat.le_trans hk7 (Keep.of_wr W8).1
    have RR8 := RR7.trans (CHr.wr W8 (Safe.arv hZ.alike V7 (by decide)) RR7.1)
    have sf8_a1 := (Safe.wr W8 (Safe.arv hZ.alike V7 (by decide)) RR7.1 ((sf5_a1.ext E6 RR5.1).ext E7 RR6.1))
    have V8_a2 := (((V5_a2.ext E6).ext E7).other W8 (Nat.ne_of_lt (Nat.lt_of_lt_of_eq (V5_a2.ext E6).lt g7.symm)))
    have F8_a1_coder := (((C5.ext E6).ext E7).other W8 (Or.inl (Nat.ne_of_lt (Nat.lt_of_lt_of_eq (A5.ext E6).lt g7.symm))))
    have F8_a1_value := (((F5.ext E6).ext E7).other W8 (Or.inl (Nat.ne_of_lt (Nat.lt_of_lt_of_eq (A5.ext E6).lt g7.symm))))
    have V8_d5 := (((V5.ext E6).ext E7).other W8 (Nat.ne_of_lt (Nat.lt_of_lt_of_eq (V5.ext E6).lt g7.symm)))
    have sf8_a6 := (Safe.wr W8 (Safe.arv hZ.alike V7 (by decide)) RR7.1 (sf6.ext E7 RR6.1))
    have F8_a6_coder := ((F6_coder.ext E7).other W8 (Or.inl (Nat.ne_of_lt (Nat.lt_of_lt_of_eq A6.lt g7.symm))))
    have F8_a6_value := ((F6_value.ext E7).other W8 (Or.inl (Nat.ne_of_lt (Nat.lt_of_lt_of_eq A6.lt g7.symm))))
    show Fin _ p e below s _ _ _ T8 (mkF m 59 #[.val (.int p0), .val (.int p1), .val (.int p2), .val (.int p3), .val (.ref a1), .unset, .unset, .unset] [(.ref a7), (.ref a6), (.ref a6)])
    refine Fin.go (fun _ k => XS.dup X8.here hx rfl (hb hby at_59) rfl rfl k) ?_
    show Fin _ p e below s _ _ _ T8 (mkF m 60 #[.val (.int p0), .val (.int p1), .val (.int p2), .val (.int p3), .val (.ref a1), .unset, .unset, .unset] [(.ref a7), (.ref a7), (.ref a6), (.ref a6)])
    refine Fin.go (fun _ k => XS.iconst X8.here hx rfl (hb hby at_60) k) ?_
    show Fin _ p e below s _ _ _ T8 (mkF m 61 #[.val (.int p0), .val (.int p1), .val (.int p2), .val (.int p3), .val (.ref a1), .unset, .unset, .unset] [(.int (1 : Int32)), (.ref a7), (.ref a7), (.ref a6), (.ref a6)])
    refine Fin.go (fun _ k => XS.iloadN X8.here hx rfl (hb hby at_61) rfl k) ?_
    show Fin _ p e below s _ _ _ T8 (mkF m 62 #[.val (.int p0), .val (.int p1), .val (.int p2), .val (.int p3), .val (.ref a1), .unset, .unset, .unset] [(.int p1), (.int (1 : Int32)), (.ref a7), (.ref a7), (.ref a6), (.ref a6)])
    refine Fin.go (fun _ k => XS.bipush X8.here hx rfl (hb hby at_62) k) ?_
    show Fin _ p e below s _ _ _ T8 (mkF m 64 #[.val (.int p0), .val (.int p1), .val (.int p2), .val (.int p3), .val (.ref a1), .unset, .unset, .unset] [(.int (8 : Int32)), (.int p1), (.int (1 : Int32)), (.ref a7), (.ref a7), (.ref a6), (.ref a6)])
    refine Fin.go (fun _ k => XT.iushr X8.here hx rfl (hb hby at_64) rfl k) ?_
    show Fin _ p e below s _ _ _ T8 (mkF m 65 #[.val (.int p0), .val (.int p1), .val (.int p2), .val (.int p3), .val (.ref a1), .unset, .unset, .unset] [(.int (XT.ushr p1 (8 : Int32))), (.int (1 : Int32)), (.ref a7), (.ref a7), (.ref a6), (.ref a6)])
    refine Fin.go (fun _ k => XS.sipush X8.here hx rfl (hb hby at_65) k) ?_
    show Fin _ p e below s _ _ _ T8 (mkF m 68 #[.val (.int p0), .val (.int p1), .val (.int p2), .val (.int p3), .val (.ref a1), .unset, .unset, .unset] [(.int (255 : Int32)), (.int (XT.ushr p1 (8 : Int32))), (.int (1 : Int32)), (.ref a7), (.ref a7), (.ref a6), (.ref a6)])
    refine Fin.go (fun _ k => XS.iand X8.here hx rfl (hb hby at_68) rfl k) ?_
    show Fin _ p e below s _ _ _ T8 (mkF m 69 #[.val (.int p0), .val (.int p1), .val (.int p2), .val (.int p3), .val (.ref a1), .unset, .unset, .unset] [(.int ((XT.ushr p1 (8 : Int32)) &&& (255 : Int32))), (.int (1 : Int32)), (.ref a7), (.ref a7), (.ref a6), (.ref a6)])
    refine Fin.go (fun _ k => XT.i2c X8.here hx rfl (hb hby at_69) rfl k) ?_
    show Fin _ p e below s _ _ _ T8 (mkF m 70 #[.val (.int p0), .val (.int p1), .val (.int p2), .val (.int p3), .val (.ref a1), .unset, .unset, .unset] [(.int ((Int32.toUInt32 ((XT.ushr p1 (8 : Int32)) &&& (255 : Int32))).toUInt16.toUInt32.toInt32)), (.int (1 : Int32)), (.ref a7), (.ref a7), (.ref a6), (.ref a6)])
    obtain ⟨c9, B9, q9, S9, M9, H9, G9⟩ := id V8
    obtain ⟨T9, h9, X9, e9, W9, st9⟩ := stC X8 hx hZ e8 B9 (j := (1 : Int32)) (inb_of S9 ⟨(by decide : ¬ ((1 : Int32) < (0 : Int32))), (by decide : (1 : Int32) < (2 : Int32))⟩) (g := (mkF m 70 #[.val (.int p0), .val (.int p1), .val (.int p2), .val (.int p3), .val (.ref a1), .unset, .unset, .unset] [(.int ((Int32.toUInt32 ((XT.ushr p1 (8 : Int32)) &&& (255 : Int32))).toUInt16.toUInt32.toInt32)), (.int (1 : Int32)), (.ref a7), (.ref a7), (.ref a6), (.ref a6)])) rfl rfl (hb hby at_70)
    refine Fin.go st9 ?_
    have V9 : Arv Z h9 a7 k7 .char (2 : Int32) [(.int ((Int32.toUInt32 (p1 &&& (255 : Int32))).toUInt16.toUInt32.toInt32)), (.int ((Int32.toUInt32 ((XT.ushr p1 (8 : Int32)) &&& (255 : Int32))).toUInt16.toUInt32.toInt32))] (.int (0 : Int32)) := (by have q : Arv Z h9 a7 k7 .char (2 : Int32) [(.int ((Int32.toUInt32 (p1 &&& (255 : Int32))).toUInt16.toUInt32.toInt32)), (.int (nar .char ((Int32.toUInt32 ((XT.ushr p1 (8 : Int32)) &&& (255 : Int32))).toUInt16.toUInt32.toInt32)))] (.int (0 : Int32)) := (Arv.set B9 q9 S9 M9 H9 G9 (fits_nar_char _) W9 1 rfl (Nat.le_of_ble_eq_true rfl)); rwa [nar_c16] at q)
    have N9 := Fr.snoc X9 N8 n7
    have O9 := O8.wr W9 n7
    have hk9 := Nat.le_trans hk8 (Keep.of_wr W9).1
    have RR9 := RR8.trans (CHr.wr W9 (Safe.arv hZ.alike V8 (by decide)) RR8.1)
    have V9_a2 := (V8_a2.other W9 (Nat.ne_of_lt (Nat.lt_of_lt_of_eq (V5_a2.ext E6).lt g7.symm)))
    have F9_a1_coder := (F8_a1_coder.other W9 (Or.inl (Nat.ne_of_lt (Nat.lt_of_lt_of_eq (A5.ext E6).lt g7.symm))))
    have F9_a1_value := (F8_a1_value.other W9 (Or.inl (Nat.ne_of_lt (Nat.lt_of_lt_of_eq (A5.ext E6).lt g7.symm))))
    have V9_d5 := (V8_d5.other W9 (Nat.ne_of_lt (Nat.lt_of_lt_of_eq (V5.ext E6).lt g7.symm)))
    have F9_a6_coder := (F8_a6_coder.other W9 (Or.inl (Nat.ne_of_lt (Nat.lt_of_lt_of_eq A6.lt g7.symm))))
    have F9_a6_value := (F8_a6_value.other W9 (Or.inl (Nat.ne_of_lt (Nat.lt_of_lt_of_eq A6.lt g7.symm))))
    show Fin _ p e below s _ _ _ T9 (mkF m 71 #[.val (.int p0), .val (.int p1), .val (.int p2), .val (.int p3), .val (.ref a1), .unset, .unset, .unset] [(.ref a7), (.ref a6), (.ref a6)])
    obtain ⟨v10, T10, L10, X10, q10, st10⟩ := callCt X9 hx hZ (y := (⟨"java/lang/String", "<init>", "([C)V"⟩ : MethodName)) rfl hown (hw _ w_4) (hw _ w_5) (hw _ w_2) (hw _ w_6) (by decide) (W := 1) (rmStr2 l Z a0 hw n0 h9 O9 a6 a7 k7 ((Int32.toUInt32 (p1 &&& (255 : Int32))).toUInt16.toUInt32.toInt32) ((Int32.toUInt32 ((XT.ushr p1 (8 : Int32)) &&& (255 : Int32))).toUInt16.toUInt32.toInt32) cs S_cs hcs V9 (((A6.ext E7).wr W8).wr W9) F9_a6_coder F9_a6_value (and255 _) (and255 _) n6 (Ne.symm (Nat.ne_of_lt (Nat.lt_of_lt_of_eq A6.lt g7.symm)))) e9 (by decide) (by decide) (by decide) (by decide) (g := (mkF m 71 #[.val (.int p0), .val (.int p1), .val (.int p2), .val (.int p3), .val (.ref a1), .unset, .unset, .unset] [(.ref a7), (.ref a6), (.ref a6)])) rfl (by rw [hml]; rfl) (a := a6) (argsL := [(.ref a7)]) (rest := [(.ref a6)]) (lenOf pd_oACcV rfl) rfl (by show 2 * 0 + _ ≤ _; exact Nat.le_of_eq rfl) (hb hby at_71)
    obtain ⟨rfl, Nq10, Kq10, A10, C10, d10, kd10, F10, V10, zd10⟩ := q10
    have N10 := Fr.app N9 Nq10
    have O10 := O9.keep Kq10 (allS n6 all0)
    have RR10 := RR9.trans (CHr.keep Kq10 (sfS (Safe.wr W9 (Safe.arv hZ.alike V8 (by decide)) RR8.1 sf8_a6) sf0) RR9.1)
    have hk10 := Nat.le_trans hk9 Kq10.1
    refine Fin.go st10 ?_
    have sf10_a1 := (Safe.keep Kq10 (sfS (Safe.wr W9 (Safe.arv hZ.alike V8 (by decide)) RR8.1 sf8_a6) sf0) RR9.1 (Safe.wr W9 (Safe.arv hZ.alike V8 (by decide)) RR8.1 sf8_a1))
    have V10_a2 := (V9_a2.keep Kq10 (ninS (Nat.ne_of_lt (Nat.lt_of_lt_of_eq V5_a2.lt g6.symm)) nin0))
    have F10_a1_coder := (F9_a1_coder.keep Kq10 (ninS (Nat.ne_of_lt (Nat.lt_of_lt_of_eq A5.lt g6.symm)) nin0))
    have F10_a1_value := (F9_a1_value.keep Kq10 (ninS (Nat.ne_of_lt (Nat.lt_of_lt_of_eq A5.lt g6.symm)) nin0))
    have V10_d5 := (V9_d5.keep Kq10 (ninS (Nat.ne_of_lt (Nat.lt_of_lt_of_eq V5.lt g6.symm)) nin0))
    have sf10_a6 := (Safe.keep Kq10 (sfS (Safe.wr W9 (Safe.arv hZ.alike V8 (by decide)) RR8.1 sf8_a6) sf0) RR9.1 (Safe.wr W9 (Safe.arv hZ.alike V8 (by decide)) RR8.1 sf8_a6))
    have V10_a7 := (V9.keep Kq10 (ninS (Ne.symm (Nat.ne_of_lt (Nat.lt_of_lt_of_eq A6.lt g7.symm))) nin0))
    show Fin _ p e below s _ _ _ T10 (mkF m 74 #[.val (.int p0), .val (.int p1), .val (.int p2), .val (.int p3), .val (.ref a1), .unset, .unset, .unset] [(.ref a6)])
    have nzd10 : n0 ≤ d10 := Nat.le_trans (by have := O9.1; have := O9.2.1; omega) zd10
    refine Fin.go (fun _ k => XS.astore X10.here hx rfl (hb hby at_74) rfl rfl (l' := #[.val (.int p0), .val (.int p1), .val (.int p2), .val (.int p3), .val (.ref a1), .val (.ref a6), .unset, .unset]) rfl k) ?_
    show Fin _ p e below s _ _ _ T10 (mkF m 76 #[.val (.int p0), .val (.int p1), .val (.int p2), .val (.int p3), .val (.ref a1), .val (.ref a6), .unset, .unset] [])
    refine Fin.go (fun _ k => XS.iloadN X10.here hx rfl (hb hby at_76) rfl k) ?_
    show Fin _ p e below s _ _ _ T10 (mkF m 77 #[.val (.int p0), .val (.int p1), .val (.int p2), .val (.int p3), .val (.ref a1), .val (.ref a6), .unset, .unset] [(.int p3)])
    refine Fin.go (fun _ k => XS.iconst X10.here hx rfl (hb hby at_77) k) ?_
    show Fin _ p e below s _ _ _ T10 (mkF m 78 #[.val (.int p0), .val (.int p1), .val (.int p2), .val (.int p3), .val (.ref a1), .val (.ref a6), .unset, .unset] [(.int (2 : Int32)), (.int p3)])
    refine Fin.go (fun _ k => XS.iand X10.here hx rfl (hb hby at_78) rfl k) ?_
    show Fin _ p e below s _ _ _ T10 (mkF m 79 #[.val (.int p0), .val (.int p1), .val (.int p2), .val (.int p3), .val (.ref a1), .val (.ref a6), .unset, .unset] [(.int (p3 &&& (2 : Int32)))])
    by_cases c79 : (p3 &&& (2 : Int32)) = 0
    · refine Fin.go (fun _ k => XS.ifYes X10.here hx rfl (pc0 := 79) (pc' := 87) rfl (hb hby at_79) rfl (XT.i0_eq_t c79) (by decide) (by decide) k) ?_
      show Fin _ p e below s _ _ _ T10 (mkF m 87 #[.val (.int p0), .val (.int p1), .val (.int p2), .val (.int p3), .val (.ref a1), .val (.ref a6), .unset, .unset] [])
      obtain ⟨T11, h11, X11, e11, E11, A11, D11, U11, st11⟩ := newO X10 hx hZ hown (hw _ w_0) (hw _ w_1) (hw _ w_2) (rfl : T10.heap = T10.heap) (g := (mkF m 87 #[.val (.int p0), .val (.int p1), .val (.int p2), .val (.int p3), .val (.ref a1), .val (.ref a6), .unset, .unset] [])) rfl (hb hby at_87) (by decide) (by decide)
      obtain ⟨a11, g11⟩ : ∃ z, z = T10.heap.size := ⟨_, rfl⟩
      rw [← g11] at A11 D11 U11 st11
      refine Fin.go st11 ?_
      have O11 := O10.ext E11
      have hk11 := Nat.le_trans hk10 E11.1
      have RR11 := RR10.trans (CHr.ext E11 RR10.1)
      have n11 : n0 ≤ a11 := by have := O10.2.1; have := O10.1; omega
      have sf11 := (Safe.new (Z := Z) (EL := EL) (vm := s.vm) (Nat.le_of_eq g11.symm)).ext E11 RR10.1
      have F11_coder : Fld Z h11 a11 "java/lang/String" "coder" "B" (.int (0 : Int32)) := D11 (Or.inr (hw _ w_27)) (ty := .byte) (by decide)
      have F11_value : Fld Z h11 a11 "java/lang/String" "value" "[B" .null := D11 (Or.inr (hw _ w_29)) (ty := (.array .byte)) (by decide)
      show Fin _ p e below s _ _ _ T11 (mkF m 90 #[.val (.int p0), .val (.int p1), .val (.int p2), .val (.int p3), .val (.ref a1), .val (.ref a6), .unset, .unset] [(.ref a11)])
      refine Fin.go (fun _ k => XS.dup X11.here hx rfl (hb hby at_90) rfl rfl k) ?_
      show Fin _ p e below s _ _ _ T11 (mkF m 91 #[.val (.int p0), .val (.int p1), .val (.int p2), .val (.int p3), .val (.ref a1), .val (.ref a6), .unset, .unset] [(.ref a11), (.ref a11)])
      refine Fin.go (fun _ k => XS.iconst X11.here hx rfl (hb hby at_91) k) ?_
      show Fin _ p e below s _ _ _ T11 (mkF m 92 #[.val (.int p0), .val (.int p1), .val (.int p2), .val (.int p3), .val (.ref a1), .val (.ref a6), .unset, .unset] [(.int (3 : Int32)), (.ref a11), (.ref a11)])
      obtain ⟨T12, h12, k12, X12, e12, E12, A12, st12⟩ := newP X11 hx hZ (aty := .char) (hw _ w_3) e11 (g := (mkF m 92 #[.val (.int p0), .val (.int p1), .val (.int p2), .val (.int p3), .val (.ref a1), .val (.ref a6), .unset, .unset] [(.int (3 : Int32)), (.ref a11), (.ref a11)])) rfl (hb hby at_92) rfl (by decide : ¬ ((3 : Int32) < (0 : Int32))) (cap := 3) (by decide) (by decide) (by decide) (by decide)
      obtain ⟨a12, g12⟩ : ∃ z, z = h11.size := ⟨_, rfl⟩
      rw [← g12] at A12 st12
      refine Fin.go st12 ?_
      have O12 := O11.ext E12
      have hk12 := Nat.le_trans hk11 E12.1
      have RR12 := RR11.trans (CHr.ext E12 RR11.1)
      have n12 : n0 ≤ a12 := by have := O11.2.1; have := O11.1; omega
      have V12 : Arv Z h12 a12 k12 .char (3 : Int32) [(.int (0 : Int32)), (.int (0 : Int32)), (.int (0 : Int32))] (.int (0 : Int32)) := (Arv.new A12 (by decide)).pad (pad_rep [] (.int (0 : Int32)) 3)
      show Fin _ p e below s _ _ _ T12 (mkF m 94 #[.val (.int p0), .val (.int p1), .val (.int p2), .val (.int p3), .val (.ref a1), .val (.ref a6), .unset, .unset] [(.ref a12), (.ref a11), (.ref a11)])
      refine Fin.go (fun _ k => XS.dup X12.here hx rfl (hb hby at_94) rfl rfl k) ?_
      show Fin _ p e below s _ _ _ T12 (mkF m 95 #[.val (.int p0), .val (.int p1), .val (.int p2), .val (.int p3), .val (.ref a1), .val (.ref a6), .unset, .unset] [(.ref a12), (.ref a12), (.ref a11), (.ref a11)])
      refine Fin.go (fun _ k => XS.iconst X12.here hx rfl (hb hby at_95) k) ?_
      show Fin _ p e below s _ _ _ T12 (mkF m 96 #[.val (.int p0), .val (.int p1), .val (.int p2), .val (.int p3), .val (.ref a1), .val (.ref a6), .unset, .unset] [(.int (0 : Int32)), (.ref a12), (.ref a12), (.ref a11), (.ref a11)])
      refine Fin.go (fun _ k => XS.iloadN X12.here hx rfl (hb hby at_96) rfl k) ?_
      show Fin _ p e below s _ _ _ T12 (mkF m 97 #[.val (.int p0), .val (.int p1), .val (.int p2), .val (.int p3), .val (.ref a1), .val (.ref a6), .unset, .unset] [(.int p2), (.int (0 : Int32)), (.ref a12), (.ref a12), (.ref a11), (.ref a11)])
      refine Fin.go (fun _ k => XS.sipush X12.here hx rfl (hb hby at_97) k) ?_
      show Fin _ p e below s _ _ _ T12 (mkF m 100 #[.val (.int p0), .val (.int p1), .val (.int p2), .val (.int p3), .val (.ref a1), .val (.ref a6), .unset, .unset] [(.int (255 : Int32)), (.int p2), (.int (0 : Int32)), (.ref a12), (.ref a12), (.ref a11), (.ref a11)])
      refine Fin.go (fun _ k => XS.iand X12.here hx rfl (hb hby at_100) rfl k) ?_
      show Fin _ p e below s _ _ _ T12 (mkF m 101 #[.val (.int p0), .val (.int p1), .val (.int p2), .val (.int p3), .val (.ref a1), .val (.ref a6), .unset, .unset] [(.int (p2 &&& (255 : Int32))), (.int (0 : Int32)), (.ref a12), (.ref a12), (.ref a11), (.ref a11)])
      refine Fin.go (fun _ k => XT.i2c X12.here hx rfl (hb hby at_101) rfl k) ?_
      show Fin _ p e below s _ _ _ T12 (mkF m 102 #[.val (.int p0), .val (.int p1), .val (.int p2), .val (.int p3), .val (.ref a1), .val (.ref a6), .unset, .unset] [(.int ((Int32.toUInt32 (p2 &&& (255 : Int32))).toUInt16.toUInt32.toInt32)), (.int (0 : Int32)), (.ref a12), (.ref a12), (.ref a11), (.ref a11)])
      obtain ⟨c13, B13, q13, S13, M13, H13, G13⟩ := id V12
      obtain ⟨T13, h13, X13, e13, W13, st13⟩ := stC X12 hx hZ e12 B13 (j := (0 : Int32)) (inb_of S13 ⟨(by decide : ¬ ((0 : Int32) < (0 : Int32))), (by decide : (0 : Int32) < (3 : Int32))⟩) (g := (mkF m 102 #[.val (.int p0), .val (.int p1), .val (.int p2), .val (.int p3), .val (.ref a1), .val (.ref a6), .unset, .unset] [(.int ((Int32.toUInt32 (p2 &&& (255 : Int32))).toUInt16.toUInt32.toInt32)), (.int (0 : Int32)), (.ref a12), (.ref a12), (.ref a11), (.ref a11)])) rfl rfl (hb hby at_102)
      refine Fin.go st13 ?_
      have V13 : Arv Z h13 a12 k12 .char (3 : Int32) [(.int ((Int32.toUInt32 (p2 &&& (255 : Int32))).toUInt16.toUInt32.toInt32)), (.int (0 : Int32)), (.int (0 : Int32))] (.int (0 : Int32)) := (by have q : Arv Z h13 a12 k12 .char (3 : Int32) [(.int (nar .char ((Int32.toUInt32 (p2 &&& (255 : Int32))).toUInt16.toUInt32.toInt32))), (.int (0 : Int32)), (.int (0 : Int32))] (.int (0 : Int32)) := (Arv.set B13 q13 S13 M13 H13 G13 (fits_nar_char _) W13 0 rfl (Nat.le_of_ble_eq_true rfl)); rwa [nar_c16] at q)
      have N13 := Fr.snoc X13 N10 n12
      have O13 := O12.wr W13 n12
      have hk13 := Nat.le_trans hk12 (Keep.of_wr W13).1
      have RR13 := RR12.trans (CHr.wr W13 (Safe.arv hZ.alike V12 (by decide)) RR12.1)
      have sf13_a1 := (Safe.wr W13 (Safe.arv hZ.alike V12 (by decide)) RR12.1 ((sf10_a1.ext E11 RR10.1).ext E12 RR11.1))
      have A13_a1 := ((((((((A5.ext E6).ext E7).wr W8).wr W9).keep Kq10).ext E11).ext E12).wr W13)
      have V13_a2 := (((V10_a2.ext E11).ext E12).other W13 (Nat.ne_of_lt (Nat.lt_of_lt_of_eq (V10_a2.ext E11).lt g12.symm)))
      have F13_a1_coder := (((F10_a1_coder.ext E11).ext E12).other W13 (Or.inl (Nat.ne_of_lt (Nat.lt_of_lt_of_eq ((((((A5.ext E6).ext E7).wr W8).wr W9).keep Kq10).ext E11).lt g12.symm))))
      have F13_a1_value := (((F10_a1_value.ext E11).ext E12).other W13 (Or.inl (Nat.ne_of_lt (Nat.lt_of_lt_of_eq ((((((A5.ext E6).ext E7).wr W8).wr W9).keep Kq10).ext E11).lt g12.symm))))
      have V13_d5 := (((V10_d5.ext E11).ext E12).other W13 (Nat.ne_of_lt (Nat.lt_of_lt_of_eq (V10_d5.ext E11).lt g12.symm)))
      have sf13_a6 := (Safe.wr W13 (Safe.arv hZ.alike V12 (by decide)) RR12.1 ((sf10_a6.ext E11 RR10.1).ext E12 RR11.1))
      have V13_a7 := (((V10_a7.ext E11).ext E12).other W13 (Nat.ne_of_lt (Nat.lt_of_lt_of_eq (V10_a7.ext E11).lt g12.symm)))
      have F13_a6_coder := (((C10.ext E11).ext E12).other W13 (Or.inl (Nat.ne_of_lt (Nat.lt_of_lt_of_eq (A10.ext E11).lt g12.symm))))
      have F13_a6_value := (((F10.ext E11).ext E12).other W13 (Or.inl (Nat.ne_of_lt (Nat.lt_of_lt_of_eq (A10.ext E11).lt g12.symm))))
      have V13_d10 := (((V10.ext E11).ext E12).other W13 (Nat.ne_of_lt (Nat.lt_of_lt_of_eq (V10.ext E11).lt g12.symm)))
      have sf13_a11 := (Safe.wr W13 (Safe.arv hZ.alike V12 (by decide)) RR12.1 (sf11.ext E12 RR11.1))
      have F13_a11_coder := ((F11_coder.ext E12).other W13 (Or.inl (Nat.ne_of_lt (Nat.lt_of_lt_of_eq A11.lt g12.symm))))
      have F13_a11_value := ((F11_value.ext E12).other W13 (Or.inl (Nat.ne_of_lt (Nat.lt_of_lt_of_eq A11.lt g12.symm))))
      show Fin _ p e below s _ _ _ T13 (mkF m 103 #[.val (.int p0), .val (.int p1), .val (.int p2), .val (.int p3), .val (.ref a1), .val (.ref a6), .unset, .unset] [(.ref a12), (.ref a11), (.ref a11)])
      refine Fin.go (fun _ k => XS.dup X13.here hx rfl (hb hby at_103) rfl rfl k) ?_
      show Fin _ p e below s _ _ _ T13 (mkF m 104 #[.val (.int p0), .val (.int p1), .val (.int p2), .val (.int p3), .val (.ref a1), .val (.ref a6), .unset, .unset] [(.ref a12), (.ref a12), (.ref a11), (.ref a11)])
      refine Fin.go (fun _ k => XS.iconst X13.here hx rfl (hb hby at_104) k) ?_
      show Fin _ p e below s _ _ _ T13 (mkF m 105 #[.val (.int p0), .val (.int p1), .val (.int p2), .val (.int p3), .val (.ref a1), .val (.ref a6), .unset, .unset] [(.int (1 : Int32)), (.ref a12), (.ref a12), (.ref a11), (.ref a11)])
      refine Fin.go (fun _ k => XS.iloadN X13.here hx rfl (hb hby at_105) rfl k) ?_
      show Fin _ p e below s _ _ _ T13 (mkF m 106 #[.val (.int p0), .val (.int p1), .val (.int p2), .val (.int p3), .val (.ref a1), .val (.ref a6), .unset, .unset] [(.int p2), (.int (1 : Int32)), (.ref a12), (.ref a12), (.ref a11), (.ref a11)])
      refine Fin.go (fun _ k => XS.bipush X13.here hx rfl (hb hby at_106) k) ?_
      show Fin _ p e below s _ _ _ T13 (mkF m 108 #[.val (.int p0), .val (.int p1), .val (.int p2), .val (.int p3), .val (.ref a1), .val (.ref a6), .unset, .unset] [(.int (8 : Int32)), (.int p2), (.int (1 : Int32)), (.ref a12), (.ref a12), (.ref a11), (.ref a11)])
      refine Fin.go (fun _ k => XT.iushr X13.here hx rfl (hb hby at_108) rfl k) ?_
      show Fin _ p e below s _ _ _ T13 (mkF m 109 #[.val (.int p0), .val (.int p1), .val (.int p2), .val (.int p3), .val (.ref a1), .val (.ref a6), .unset, .unset] [(.int (XT.ushr p2 (8 : Int32))), (.int (1 : Int32)), (.ref a12), (.ref a12), (.ref a11), (.ref a11)])
      refine Fin.go (fun _ k => XS.sipush X13.here hx rfl (hb hby at_109) k) ?_
      show Fin _ p e below s _ _ _ T13 (mkF m 112 #[.val (.int p0), .val (.int p1), .val (.int p2), .val (.int p3), .val (.ref a1), .val (.ref a6), .unset, .unset] [(.int (255 : Int32)), (.int (XT.ushr p2 (8 : Int32))), (.int (1 : Int32)), (.ref a12), (.ref a12), (.ref a11), (.ref a11)])
      refine Fin.go (fun _ k => XS.iand X13.here hx rfl (hb hby at_112) rfl k) ?_
      show Fin _ p e below s _ _ _ T13 (mkF m 113 #[.val (.int p0), .val (.int p1), .val (.int p2), .val (.int p3), .val (.ref a1), .val (.ref a6), .unset, .unset] [(.int ((XT.ushr p2 (8 : Int32)) &&& (255 : Int32))), (.int (1 : Int32)), (.ref a12), (.ref a12), (.ref a11), (.ref a11)])
      refine Fin.go (fun _ k => XT.i2c X13.here hx rfl (hb hby at_113) rfl k) ?_
      show Fin _ p e below s _ _ _ T13 (mkF m 114 #[.val (.int p0), .val (.int p1), .val (.int p2), .val (.int p3), .val (.ref a1), .val (.ref a6), .unset, .unset] [(.int ((Int32.toUInt32 ((XT.ushr p2 (8 : Int32)) &&& (255 : Int32))).toUInt16.toUInt32.toInt32)), (.int (1 : Int32)), (.ref a12), (.ref a12), (.ref a11), (.ref a11)])
      obtain ⟨c14, B14, q14, S14, M14, H14, G14⟩ := id V13
      obtain ⟨T14, h14, X14, e14, W14, st14⟩ := stC X13 hx hZ e13 B14 (j := (1 : Int32)) (inb_of S14 ⟨(by decide : ¬ ((1 : Int32) < (0 : Int32))), (by decide : (1 : Int32) < (3 : Int32))⟩) (g := (mkF m 114 #[.val (.int p0), .val (.int p1), .val (.int p2), .val (.int p3), .val (.ref a1), .val (.ref a6), .unset, .unset] [(.int ((Int32.toUInt32 ((XT.ushr p2 (8 : Int32)) &&& (255 : Int32))).toUInt16.toUInt32.toInt32)), (.int (1 : Int32)), (.ref a12), (.ref a12), (.ref a11), (.ref a11)])) rfl rfl (hb hby at_114)
      refine Fin.go st14 ?_
      have V14 : Arv Z h14 a12 k12 .char (3 : Int32) [(.int ((Int32.toUInt32 (p2 &&& (255 : Int32))).toUInt16.toUInt32.toInt32)), (.int ((Int32.toUInt32 ((XT.ushr p2 (8 : Int32)) &&& (255 : Int32))).toUInt16.toUInt32.toInt32)), (.int (0 : Int32))] (.int (0 : Int32)) := (by have q : Arv Z h14 a12 k12 .char (3 : Int32) [(.int ((Int32.toUInt32 (p2 &&& (255 : Int32))).toUInt16.toUInt32.toInt32)), (.int (nar .char ((Int32.toUInt32 ((XT.ushr p2 (8 : Int32)) &&& (255 : Int32))).toUInt16.toUInt32.toInt32))), (.int (0 : Int32))] (.int (0 : Int32)) := (Arv.set B14 q14 S14 M14 H14 G14 (fits_nar_char _) W14 1 rfl (Nat.le_of_ble_eq_true rfl)); rwa [nar_c16] at q)
      have N14 := Fr.snoc X14 N13 n12
      have O14 := O13.wr W14 n12
      have hk14 := Nat.le_trans hk13 (Keep.of_wr W14).1
      have RR14 := RR13.trans (CHr.wr W14 (Safe.arv hZ.alike V13 (by decide)) RR13.1)
      have sf14_a1 := (Safe.wr W14 (Safe.arv hZ.alike V13 (by decide)) RR13.1 sf13_a1)
      have V14_a2 := (V13_a2.other W14 (Nat.ne_of_lt (Nat.lt_of_lt_of_eq (V10_a2.ext E11).lt g12.symm)))
      have F14_a1_coder := (F13_a1_coder.other W14 (Or.inl (Nat.ne_of_lt (Nat.lt_of_lt_of_eq ((((((A5.ext E6).ext E7).wr W8).wr W9).keep Kq10).ext E11).lt g12.symm))))
      have F14_a1_value := (F13_a1_value.other W14 (Or.inl (Nat.ne_of_lt (Nat.lt_of_lt_of_eq ((((((A5.ext E6).ext E7).wr W8).wr W9).keep Kq10).ext E11).lt g12.symm))))
      have V14_d5 := (V13_d5.other W14 (Nat.ne_of_lt (Nat.lt_of_lt_of_eq (V10_d5.ext E11).lt g12.symm)))
      have sf14_a6 := (Safe.wr W14 (Safe.arv hZ.alike V13 (by decide)) RR13.1 sf13_a6)
      have V14_a7 := (V13_a7.other W14 (Nat.ne_of_lt (Nat.lt_of_lt_of_eq (V10_a7.ext E11).lt g12.symm)))
      have F14_a6_coder := (F13_a6_coder.other W14 (Or.inl (Nat.ne_of_lt (Nat.lt_of_lt_of_eq (A10.ext E11).lt g12.symm))))
      have F14_a6_value := (F13_a6_value.other W14 (Or.inl (Nat.ne_of_lt (Nat.lt_of_lt_of_eq (A10.ext E11).lt g12.symm))))
      have V14_d10 := (V13_d10.other W14 (Nat.ne_of_lt (Nat.lt_of_lt_of_eq (V10.ext E11).lt g12.symm)))
      have sf14_a11 := (Safe.wr W14 (Safe.arv hZ.alike V13 (by decide)) RR13.1 sf13_a11)
      have F14_a11_coder := (F13_a11_coder.other W14 (Or.inl (Nat.ne_of_lt (Nat.lt_of_lt_of_eq A11.lt g12.symm))))
      have F14_a11_value := (F13_a11_value.other W14 (Or.inl (Nat.ne_of_lt (Nat.lt_of_lt_of_eq A11.lt g12.symm))))
      show Fin _ p e below s _ _ _ T14 (mkF m 115 #[.val (.int p0), .val (.int p1), .val (.int p2), .val (.int p3), .val (.ref a1), .val (.ref a6), .unset, .unset] [(.ref a12), (.ref a11), (.ref a11)])
      refine Fin.go (fun _ k => XS.dup X14.here hx rfl (hb hby at_115) rfl rfl k) ?_
      show Fin _ p e below s _ _ _ T14 (mkF m 116 #[.val (.int p0), .val (.int p1), .val (.int p2), .val (.int p3), .val (.ref a1), .val (.ref a6), .unset, .unset] [(.ref a12), (.ref a12), (.ref a11), (.ref a11)])
      refine Fin.go (fun _ k => XS.iconst X14.here hx rfl (hb hby at_116) k) ?_
      show Fin _ p e below s _ _ _ T14 (mkF m 117 #[.val (.int p0), .val (.int p1), .val (.int p2), .val (.int p3), .val (.ref a1), .val (.ref a6), .unset, .unset] [(.int (2 : Int32)), (.ref a12), (.ref a12), (.ref a11), (.ref a11)])
      refine Fin.go (fun _ k => XS.iloadN X14.here hx rfl (hb hby at_117) rfl k) ?_
      show Fin _ p e below s _ _ _ T14 (mkF m 118 #[.val (.int p0), .val (.int p1), .val (.int p2), .val (.int p3), .val (.ref a1), .val (.ref a6), .unset, .unset] [(.int p2), (.int (2 : Int32)), (.ref a12), (.ref a12), (.ref a11), (.ref a11)])
      refine Fin.go (fun _ k => XS.bipush X14.here hx rfl (hb hby at_118) k) ?_
      show Fin _ p e below s _ _ _ T14 (mkF m 120 #[.val (.int p0), .val (.int p1), .val (.int p2), .val (.int p3), .val (.ref a1), .val (.ref a6), .unset, .unset] [(.int (16 : Int32)), (.int p2), (.int (2 : Int32)), (.ref a12), (.ref a12), (.ref a11), (.ref a11)])
      refine Fin.go (fun _ k => XT.iushr X14.here hx rfl (hb hby at_120) rfl k) ?_
      show Fin _ p e below s _ _ _ T14 (mkF m 121 #[.val (.int p0), .val (.int p1), .val (.int p2), .val (.int p3), .val (.ref a1), .val (.ref a6), .unset, .unset] [(.int (XT.ushr p2 (16 : Int32))), (.int (2 : Int32)), (.ref a12), (.ref a12), (.ref a11), (.ref a11)])
      refine Fin.go (fun _ k => XS.sipush X14.here hx rfl (hb hby at_121) k) ?_
      show Fin _ p e below s _ _ _ T14 (mkF m 124 #[.val (.int p0), .val (.int p1), .val (.int p2), .val (.int p3), .val (.ref a1), .val (.ref a6), .unset, .unset] [(.int (255 : Int32)), (.int (XT.ushr p2 (16 : Int32))), (.int (2 : Int32)), (.ref a12), (.ref a12), (.ref a11), (.ref a11)])
      refine Fin.go (fun _ k => XS.iand X14.here hx rfl (hb hby at_124) rfl k) ?_
      show Fin _ p e below s _ _ _ T14 (mkF m 125 #[.val (.int p0), .val (.int p1), .val (.int p2), .val (.int p3), .val (.ref a1), .val (.ref a6), .unset, .unset] [(.int ((XT.ushr p2 (16 : Int32)) &&& (255 : Int32))), (.int (2 : Int32)), (.ref a12), (.ref a12), (.ref a11), (.ref a11)])
      refine Fin.go (fun _ k => XT.i2c X14.here hx rfl (hb hby at_125) rfl k) ?_
      show Fin _ p e below s _ _ _ T14 (mkF m 126 #[.val (.int p0), .val (.int p1), .val (.int p2), .val (.int p3), .val (.ref a1), .val (.ref a6), .unset, .unset] [(.int ((Int32.toUInt32 ((XT.ushr p2 (16 : Int32)) &&& (255 : Int32))).toUInt16.toUInt32.toInt32)), (.int (2 : Int32)), (.ref a12), (.ref a12), (.ref a11), (.ref a11)])
      obtain ⟨c15, B15, q15, S15, M15, H15, G15⟩ := id V14
      obtain ⟨T15, h15, X15, e15, W15, st15⟩ := stC X14 hx hZ e14 B15 (j := (2 : Int32)) (inb_of S15 ⟨(by decide : ¬ ((2 : Int32) < (0 : Int32))), (by decide : (2 : Int32) < (3 : Int32))⟩) (g := (mkF m 126 #[.val (.int p0), .val (.int p1), .val (.int p2), .val (.int p3), .val (.ref a1), .val (.ref a6), .unset, .unset] [(.int ((Int32.toUInt32 ((XT.ushr p2 (16 : Int32)) &&& (255 : Int32))).toUInt16.toUInt32.toInt32)), (.int (2 : Int32)), (.ref a12), (.ref a12), (.ref a11), (.ref a11)])) rfl rfl (hb hby at_126)
      refine Fin.go st15 ?_
      have V15 : Arv Z h15 a12 k12 .char (3 : Int32) [(.int ((Int32.toUInt32 (p2 &&& (255 : Int32))).toUInt16.toUInt32.toInt32)), (.int ((Int32.toUInt32 ((XT.ushr p2 (8 : Int32)) &&& (255 : Int32))).toUInt16.toUInt32.toInt32)), (.int ((Int32.toUInt32 ((XT.ushr p2 (16 : Int32)) &&& (255 : Int32))).toUInt16.toUInt32.toInt32))] (.int (0 : Int32)) := (by have q : Arv Z h15 a12 k12 .char (3 : Int32) [(.int ((Int32.toUInt32 (p2 &&& (255 : Int32))).toUInt16.toUInt32.toInt32)), (.int ((Int32.toUInt32 ((XT.ushr p2 (8 : Int32)) &&& (255 : Int32))).toUInt16.toUInt32.toInt32)), (.int (nar .char ((Int32.toUInt32 ((XT.ushr p2 (16 : Int32)) &&& (255 : Int32))).toUInt16.toUInt32.toInt32)))] (.int (0 : Int32)) := (Arv.set B15 q15 S15 M15 H15 G15 (fits_nar_char _) W15 2 rfl (Nat.le_of_ble_eq_true rfl)); rwa [nar_c16] at q)
      have N15 := Fr.snoc X15 N14 n12
      have O15 := O14.wr W15 n12
      have hk15 := Nat.le_trans hk14 (Keep.of_wr W15).1
      have RR15 := RR14.trans (CHr.wr W15 (Safe.arv hZ.alike V14 (by decide)) RR14.1)
      have sf15_a1 := (Safe.wr W15 (Safe.arv hZ.alike V14 (by decide)) RR14.1 sf14_a1)
      have V15_a2 := (V14_a2.other W15 (Nat.ne_of_lt (Nat.lt_of_lt_of_eq (V10_a2.ext E11).lt g12.symm)))
      have F15_a1_coder := (F14_a1_coder.other W15 (Or.inl (Nat.ne_of_lt (Nat.lt_of_lt_of_eq ((((((A5.ext E6).ext E7).wr W8).wr W9).keep Kq10).ext E11).lt g12.symm))))
      have F15_a1_value := (F14_a1_value.other W15 (Or.inl (Nat.ne_of_lt (Nat.lt_of_lt_of_eq ((((((A5.ext E6).ext E7).wr W8).wr W9).keep Kq10).ext E11).lt g12.symm))))
      have V15_d5 := (V14_d5.other W15 (Nat.ne_of_lt (Nat.lt_of_lt_of_eq (V10_d5.ext E11).lt g12.symm)))
      have sf15_a6 := (Safe.wr W15 (Safe.arv hZ.alike V14 (by decide)) RR14.1 sf14_a6)
      have V15_a7 := (V14_a7.other W15 (Nat.ne_of_lt (Nat.lt_of_lt_of_eq (V10_a7.ext E11).lt g12.symm)))
      have F15_a6_coder := (F14_a6_coder.other W15 (Or.inl (Nat.ne_of_lt (Nat.lt_of_lt_of_eq (A10.ext E11).lt g12.symm))))
      have F15_a6_value := (F14_a6_value.other W15 (Or.inl (Nat.ne_of_lt (Nat.lt_of_lt_of_eq (A10.ext E11).lt g12.symm))))
      have V15_d10 := (V14_d10.other W15 (Nat.ne_of_lt (Nat.lt_of_lt_of_eq (V10.ext E11).lt g12.symm)))
      have sf15_a11 := (Safe.wr W15 (Safe.arv hZ.alike V14 (by decide)) RR14.1 sf14_a11)
      have F15_a11_coder := (F14_a11_coder.other W15 (Or.inl (Nat.ne_of_lt (Nat.lt_of_lt_of_eq A11.lt g12.symm))))
      have F15_a11_value := (F14_a11_value.other W15 (Or.inl (Nat.ne_of_lt (Nat.lt_of_lt_of_eq A11.lt g12.symm))))
      show Fin _ p e below s _ _ _ T15 (mkF m 127 #[.val (.int p0), .val (.int p1), .val (.int p2), .val (.int p3), .val (.ref a1), .val (.ref a6), .unset, .unset] [(.ref a12), (.ref a11), (.ref a11)])
      obtain ⟨v16, T16, L16, X16, q16, st16⟩ := callCt X15 hx hZ (y := (⟨"java/lang/String", "<init>", "([C)V"⟩ : MethodName)) rfl hown (hw _ w_4) (hw _ w_5) (hw _ w_2) (hw _ w_6) (by decide) (W := 1) (rmStr3 l Z a0 hw n0 h15 O15 a11 a12 k12 ((Int32.toUInt32 (p2 &&& (255 : Int32))).toUInt16.toUInt32.toInt32) ((Int32.toUInt32 ((XT.ushr p2 (8 : Int32)) &&& (255 : Int32))).toUInt16.toUInt32.toInt32) ((Int32.toUInt32 ((XT.ushr p2 (16 : Int32)) &&& (255 : Int32))).toUInt16.toUInt32.toInt32) cs S_cs hcs V15 ((((A11.ext E12).wr W13).wr W14).wr W15) F15_a11_coder F15_a11_value (and255 _) (and255 _) (and255 _) n11 (Ne.symm (Nat.ne_of_lt (Nat.lt_of_lt_of_eq A11.lt g12.symm)))) e15 (by decide) (by decide) (by decide) (by decide) (g := (mkF m 127 #[.val (.int p0), .val (.int p1), .val (.int p2), .val (.int p3), .val (.ref a1), .val (.ref a6), .unset, .unset] [(.ref a12), (.ref a11), (.ref a11)])) rfl (by rw [hml]; rfl) (a := a11) (argsL := [(.ref a12)]) (rest := [(.ref a11)]) (lenOf pd_oACcV rfl) rfl (by show 2 * 0 + _ ≤ _; exact Nat.le_of_eq rfl) (hb hby at_127)
      obtain ⟨rfl, Nq16, Kq16, A16, C16, d16, kd16, F16, V16, zd16⟩ := q16
      have N16 := Fr.app N15 Nq16
      have O16 := O15.keep Kq16 (allS n11 all0)
      have RR16 := RR15.trans (CHr.keep Kq16 (sfS sf15_a11 sf0) RR15.1)
      have hk16 := Nat.le_trans hk15 Kq16.1
      refine Fin.go st16 ?_
      have V16_a2 := (V15_a2.keep Kq16 (ninS (Nat.ne_of_lt (Nat.lt_of_lt_of_eq V10_a2.lt g11.symm)) nin0))
      have F16_a1_coder := (F15_a1_coder.keep Kq16 (ninS (Nat.ne_of_lt (Nat.lt_of_lt_of_eq (((((A5.ext E6).ext E7).wr W8).wr W9).keep Kq10).lt g11.symm)) nin0))
      have F16_a1_value := (F15_a1_value.keep Kq16 (ninS (Nat.ne_of_lt (Nat.lt_of_lt_of_eq (((((A5.ext E6).ext E7).wr W8).wr W9).keep Kq10).lt g11.symm)) nin0))
      have V16_d5 := (V15_d5.keep Kq16 (ninS (Nat.ne_of_lt (Nat.lt_of_lt_of_eq V10_d5.lt g11.symm)) nin0))
      have A16_a6 := ((((((A10.ext E11).ext E12).wr W13).wr W14).wr W15).keep Kq16)
      have V16_a7 := (V15_a7.keep Kq16 (ninS (Nat.ne_of_lt (Nat.lt_of_lt_of_eq V10_a7.lt g11.symm)) nin0))
      have F16_a6_coder := (F15_a6_coder.keep Kq16 (ninS (Nat.ne_of_lt (Nat.lt_of_lt_of_eq A10.lt g11.symm)) nin0))
      have F16_a6_value := (F15_a6_value.keep Kq16 (ninS (Nat.ne_of_lt (Nat.lt_of_lt_of_eq A10.lt g11.symm)) nin0))
      have V16_d10 := (V15_d10.keep Kq16 (ninS (Nat.ne_of_lt (Nat.lt_of_lt_of_eq V10.lt g11.symm)) nin0))
      have V16_a12 := (V15.keep Kq16 (ninS (Ne.symm (Nat.ne_of_lt (Nat.lt_of_lt_of_eq A11.lt g12.symm))) nin0))
      show Fin _ p e below s _ _ _ T16 (mkF m 130 #[.val (.int p0), .val (.int p1), .val (.int p2), .val (.int p3), .val (.ref a1), .val (.ref a6), .unset, .unset] [(.ref a11)])
      have nzd16 : n0 ≤ d16 := Nat.le_trans (by have := O15.1; have := O15.2.1; omega) zd16
      refine Fin.go (fun _ k => XS.astore X16.here hx rfl (hb hby at_130) rfl rfl (l' := #[.val (.int p0), .val (.int p1), .val (.int p2), .val (.int p3), .val (.ref a1), .val (.ref a6), .val (.ref a11), .unset]) rfl k) ?_
      show Fin _ p e below s _ _ _ T16 (mkF m 132 #[.val (.int p0), .val (.int p1), .val (.int p2), .val (.int p3), .val (.ref a1), .val (.ref a6), .val (.ref a11), .unset] [])
      refine Fin.go (fun _ k => XS.aload X16.here hx rfl (hb hby at_132) rfl rfl k) ?_
      show Fin _ p e below s _ _ _ T16 (mkF m 134 #[.val (.int p0), .val (.int p1), .val (.int p2), .val (.int p3), .val (.ref a1), .val (.ref a6), .val (.ref a11), .unset] [(.ref a1)])
      refine Fin.go (fun _ k => XS.aload X16.here hx rfl (hb hby at_134) rfl rfl k) ?_
      show Fin _ p e below s _ _ _ T16 (mkF m 136 #[.val (.int p0), .val (.int p1), .val (.int p2), .val (.int p3), .val (.ref a1), .val (.ref a6), .val (.ref a11), .unset] [(.ref a6), (.ref a1)])
      refine Fin.go (fun _ k => XS.aload X16.here hx rfl (hb hby at_136) rfl rfl k) ?_
      show Fin _ p e below s _ _ _ T16 (mkF m 138 #[.val (.int p0), .val (.int p1), .val (.int p2), .val (.int p3), .val (.ref a1), .val (.ref a6), .val (.ref a11), .unset] [(.ref a11), (.ref a6), (.ref a1)])
      obtain ⟨v17, T17, L17, X17, q17, st17⟩ := callSt X16 hx hZ (y := (⟨"com/example/termspan/termspan/options/Option", "optional", "(Ljava/lang/String;Ljava/lang/String;Ljava/lang/String;)Lcom/example/termspan/termspan/options/Option;"⟩ : MethodName)) hown (hw _ w_30) (hw _ w_31) (hw _ w_32) (hw _ w_33) (by decide) (W := 0) (rmOpt l Z a0 hw n0 T16.heap O16 (.ref a1) (.ref a6) (.ref a11) rfl rfl rfl) (rfl : T16.heap = T16.heap) (by decide) (by decide) (by decide) (by decide) (g := (mkF m 138 #[.val (.int p0), .val (.int p1), .val (.int p2), .val (.int p3), .val (.ref a1), .val (.ref a6), .val (.ref a11), .unset] [(.ref a11), (.ref a6), (.ref a1)])) rfl (by rw [hml]; rfl) (argsL := [(.ref a1), (.ref a6), (.ref a11)]) (rest := []) (lenOf pd_oLjava_lang_String_Ljava_lang_String_Ljava_lang_String_cLcom_example_termspan_termspan_options_Option_ rfl) rfl (by show 2 * 0 + _ ≤ _; exact Nat.le_of_eq rfl) (hb hby at_138)
      obtain ⟨o17, rfl, Nq17, Kq17, A17, G17_name, G17_value, G17_fallback, G17_required, G17_repeatable, G17_description, G17_range⟩ := q17
      have N17 := Fr.app N16 Nq17
      have O17 := O16.keep Kq17 all0
      have RR17 := RR16.trans (CHr.keep Kq17 sf0 RR16.1)
      have hk17 := Nat.le_trans hk16 Kq17.1
      refine Fin.go st17 ?_
      have sf17_a1 := (Safe.keep Kq17 sf0 RR16.1 (Safe.keep Kq16 (sfS sf15_a11 sf0) RR15.1 sf15_a1))
      have sf17_a6 := (Safe.keep Kq17 sf0 RR16.1 (Safe.keep Kq16 (sfS sf15_a11 sf0) RR15.1 sf15_a6))
      have sf17_a11 := (Safe.keep Kq17 sf0 RR16.1 (Safe.keep Kq16 (sfS sf15_a11 sf0) RR15.1 sf15_a11))
      show Fin _ p e below s _ _ _ T17 (mkF m 141 #[.val (.int p0), .val (.int p1), .val (.int p2), .val (.int p3), .val (.ref a1), .val (.ref a6), .val (.ref a11), .unset] [(.ref o17)])
      refine Fin.go (fun _ k => XS.astore X17.here hx rfl (hb hby at_141) rfl rfl (l' := #[.val (.int p0), .val (.int p1), .val (.int p2), .val (.int p3), .val (.ref a1), .val (.ref a6), .val (.ref a11), .val (.ref o17)]) rfl k) ?_
      show Fin _ p e below s _ _ _ T17 (mkF m 143 #[.val (.int p0), .val (.int p1), .val (.int p2), .val (.int p3), .val (.ref a1), .val (.ref a6), .val (.ref a11), .val (.ref o17)] [])
      refine Fin.go (fun _ k => XS.aload X17.here hx rfl (hb hby at_143) rfl rfl k) ?_
      show Fin _ p e below s _ _ _ T17 (mkF m 145 #[.val (.int p0), .val (.int p1), .val (.int p2), .val (.int p3), .val (.ref a1), .val (.ref a6), .val (.ref a11), .val (.ref o17)] [(.ref o17)])
      obtain ⟨v18, T18, L18, X18, q18, st18⟩ := callVt X17 hx hZ (y := (⟨"com/example/termspan/termspan/options/Option", "name", "()Ljava/lang/String;"⟩ : MethodName)) hown (hw _ w_59) (hw _ w_60) (hw _ w_62) (hw _ w_61) (hw _ w_32) (hw _ w_63) (by decide) (W := 0) (rmG_name l Z a0 hw n0 T17.heap O17 o17 (.ref a1) rfl G17_name) (rfl : T17.heap = T17.heap) A17 (by decide) (by decide) (by decide) (by decide) (g := (mkF m 145 #[.val (.int p0), .val (.int p1), .val (.int p2), .val (.int p3), .val (.ref a1), .val (.ref a6), .val (.ref a11), .val (.ref o17)] [(.ref o17)])) rfl (by rw [hml]; rfl) (argsL := []) (rest := []) (lenOf pd_ocLjava_lang_String_ rfl) rfl (by show 2 * 0 + _ ≤ _; exact Nat.le_of_eq rfl) (hb hby at_145)
      obtain ⟨rfl, e18, rfl⟩ := q18
      have N18 := Fr.app N17 (Fr.nil n0)
      refine Fin.go st18 ?_
      show Fin _ p e below s _ _ _ T18 (mkF m 148 #[.val (.int p0), .val (.int p1), .val (.int p2), .val (.int p3), .val (.ref a1), .val (.ref a6), .val (.ref a11), .val (.ref o17)] [(.ref a1)])
      refine Fin.go (fun _ k => XS.aload X18.here hx rfl (hb hby at_148) rfl rfl k) ?_
      show Fin _ p e below s _ _ _ T18 (mkF m 150 #[.val (.int p0), .val (.int p1), .val (.int p2), .val (.int p3), .val (.ref a1), .val (.ref a6), .val (.ref a11), .val (.ref o17)] [(.ref a1), (.ref a1)])
      refine Fin.go (fun _ k => XT.acmpNo X18.here hx rfl (hb hby at_150) rfl rfl rfl (XT.aa_ne_f rfl) k) ?_
      show Fin _ p e below s _ _ _ T18 (mkF m 153 #[.val (.int p0), .val (.int p1), .val (.int p2), .val (.int p3), .val (.ref a1), .val (.ref a6), .val (.ref a11), .val (.ref o17)] [])
      refine Fin.go (fun _ k => XS.aload X18.here hx rfl (hb hby at_153) rfl rfl k) ?_
      show Fin _ p e below s _ _ _ T18 (mkF m 155 #[.val (.int p0), .val (.int p1), .val (.int p2), .val (.int p3), .val (.ref a1), .val (.ref a6), .val (.ref a11), .val (.ref o17)] [(.ref o17)])
      obtain ⟨v19, T19, L19, X19, q19, st19⟩ := callVt X18 hx hZ (y := (⟨"com/example/termspan/termspan/options/Option", "value", "()Ljava/lang/String;"⟩ : MethodName)) hown (hw _ w_64) (hw _ w_65) (hw _ w_67) (hw _ w_66) (hw _ w_32) (hw _ w_68) (by decide) (W := 0) (rmG_value l Z a0 hw n0 T17.heap O17 o17 (.ref a6) rfl G17_value) e18 A17 (by decide) (by decide) (by decide) (by decide) (g := (mkF m 155 #[.val (.int p0), .val (.int p1), .val (.int p2), .val (.int p3), .val (.ref a1), .val (.ref a6), .val (.ref a11), .val (.ref o17)] [(.ref o17)])) rfl (by rw [hml]; rfl) (argsL := []) (rest := []) (lenOf pd_ocLjava_lang_String_ rfl) rfl (by show 2 * 0 + _ ≤ _; exact Nat.le_of_eq rfl) (hb hby at_155)
      obtain ⟨rfl, e19, rfl⟩ := q19
      have N19 := Fr.app N18 (Fr.nil n0)
      refine Fin.go st19 ?_
      show Fin _ p e below s _ _ _ T19 (mkF m 158 #[.val (.int p0), .val (.int p1), .val (.int p2), .val (.int p3), .val (.ref a1), .val (.ref a6), .val (.ref a11), .val (.ref o17)] [(.ref a6)])
      refine Fin.go (fun _ k => XS.aload X19.here hx rfl (hb hby at_158) rfl rfl k) ?_
      show Fin _ p e below s _ _ _ T19 (mkF m 160 #[.val (.int p0), .val (.int p1), .val (.int p2), .val (.int p3), .val (.ref a1), .val (.ref a6), .val (.ref a11), .val (.ref o17)] [(.ref a6), (.ref a6)])
      refine Fin.go (fun _ k => XT.acmpNo X19.here hx rfl (hb hby at_160) rfl rfl rfl (XT.aa_ne_f rfl) k) ?_
      show Fin _ p e below s _ _ _ T19 (mkF m 163 #[.val (.int p0), .val (.int p1), .val (.int p2), .val (.int p3), .val (.ref a1), .val (.ref a6), .val (.ref a11), .val (.ref o17)] [])
      refine Fin.go (fun _ k => XS.aload X19.here hx rfl (hb hby at_163) rfl rfl k) ?_
      show Fin _ p e below s _ _ _ T19 (mkF m 165 #[.val (.int p0), .val (.int p1), .val (.int p2), .val (.int p3), .val (.ref a1), .val (.ref a6), .val (.ref a11), .val (.ref o17)] [(.ref o17)])
      obtain ⟨v20, T20, L20, X20, q20, st20⟩ := callVt X19 hx hZ (y := (⟨"com/example/termspan/termspan/options/Option", "fallback", "()Ljava/lang/String;"⟩ : MethodName)) hown (hw _ w_69) (hw _ w_70) (hw _ w_72) (hw _ w_71) (hw _ w_32) (hw _ w_73) (by decide) (W := 0) (rmG_fallback l Z a0 hw n0 T17.heap O17 o17 .null rfl G17_fallback) e19 A17 (by decide) (by decide) (by decide) (by decide) (g := (mkF m 165 #[.val (.int p0), .val (.int p1), .val (.int p2), .val (.int p3), .val (.ref a1), .val (.ref a6), .val (.ref a11), .val (.ref o17)] [(.ref o17)])) rfl (by rw [hml]; rfl) (argsL := []) (rest := []) (lenOf pd_ocLjava_lang_String_ rfl) rfl (by show 2 * 0 + _ ≤ _; exact Nat.le_of_eq rfl) (hb hby at_165)
      obtain ⟨rfl, e20, rfl⟩ := q20
      have N20 := Fr.app N19 (Fr.nil n0)
      refine Fin.go st20 ?_
      show Fin _ p e below s _ _ _ T20 (mkF m 168 #[.val (.int p0), .val (.int p1), .val (.int p2), .val (.int p3), .val (.ref a1), .val (.ref a6), .val (.ref a11), .val (.ref o17)] [.null])
      refine Fin.go (fun _ k => XT.ifnonnullNo X20.here hx rfl (hb hby at_168) rfl k) ?_
      show Fin _ p e below s _ _ _ T20 (mkF m 171 #[.val (.int p0), .val (.int p1), .val (.int p2), .val (.int p3), .val (.ref a1), .val (.ref a6), .val (.ref a11), .val (.ref o17)] [])
      refine Fin.go (fun _ k => XS.aload X20.here hx rfl (hb hby at_171) rfl rfl k) ?_
      show Fin _ p e below s _ _ _ T20 (mkF m 173 #[.val (.int p0), .val (.int p1), .val (.int p2), .val (.int p3), .val (.ref a1), .val (.ref a6), .val (.ref a11), .val (.ref o17)] [(.ref o17)])
      obtain ⟨v21, T21, L21, X21, q21, st21⟩ := callVt X20 hx hZ (y := (⟨"com/example/termspan/termspan/options/Option", "required", "()Z"⟩ : MethodName)) hown (hw _ w_74) (hw _ w_75) (hw _ w_77) (hw _ w_76) (hw _ w_32) (hw _ w_78) (by decide) (W := 0) (rmG_required l Z a0 hw n0 T17.heap O17 o17 G17_required) e20 A17 (by decide) (by decide) (by decide) (by decide) (g := (mkF m 173 #[.val (.int p0), .val (.int p1), .val (.int p2), .val (.int p3), .val (.ref a1), .val (.ref a6), .val (.ref a11), .val (.ref o17)] [(.ref o17)])) rfl (by rw [hml]; rfl) (argsL := []) (rest := []) (lenOf pd_ocZ rfl) rfl (by show 2 * 0 + _ ≤ _; exact Nat.le_of_eq rfl) (hb hby at_173)
      obtain ⟨rfl, e21, rfl⟩ := q21
      have N21 := Fr.app N20 (Fr.nil n0)
      refine Fin.go st21 ?_
      show Fin _ p e below s _ _ _ T21 (mkF m 176 #[.val (.int p0), .val (.int p1), .val (.int p2), .val (.int p3), .val (.ref a1), .val (.ref a6), .val (.ref a11), .val (.ref o17)] [(.int (0 : Int32))])
      refine Fin.go (fun _ k => XS.ifNo X21.here hx rfl (hb hby at_176) rfl (XT.i0_ne_f (by decide)) k) ?_
      show Fin _ p e below s _ _ _ T21 (mkF m 179 #[.val (.int p0), .val (.int p1), .val (.int p2), .val (.int p3), .val (.ref a1), .val (.ref a6), .val (.ref a11), .val (.ref o17)] [])
      refine Fin.go (fun _ k => XS.aload X21.here hx rfl (hb hby at_179) rfl rfl k) ?_
      show Fin _ p e below s _ _ _ T21 (mkF m 181 #[.val (.int p0), .val (.int p1), .val (.int p2), .val (.int p3), .val (.ref a1), .val (.ref a6), .val (.ref a11), .val (.ref o17)] [(.ref o17)])
      obtain ⟨v22, T22, L22, X22, q22, st22⟩ := callVt X21 hx hZ (y := (⟨"com/example/termspan/termspan/options/Option", "repeatable", "()Z"⟩ : MethodName)) hown (hw _ w_79) (hw _ w_80) (hw _ w_82) (hw _ w_81) (hw _ w_32) (hw _ w_83) (by decide) (W := 0) (rmG_repeatable l Z a0 hw n0 T17.heap O17 o17 G17_repeatable) e21 A17 (by decide) (by decide) (by decide) (by decide) (g := (mkF m 181 #[.val (.int p0), .val (.int p1), .val (.int p2), .val (.int p3), .val (.ref a1), .val (.ref a6), .val (.ref a11), .val (.ref o17)] [(.ref o17)])) rfl (by rw [hml]; rfl) (argsL := []) (rest := []) (lenOf pd_ocZ rfl) rfl (by show 2 * 0 + _ ≤ _; exact Nat.le_of_eq rfl) (hb hby at_181)
      obtain ⟨rfl, e22, rfl⟩ := q22
      have N22 := Fr.app N21 (Fr.nil n0)
      refine Fin.go st22 ?_
      show Fin _ p e below s _ _ _ T22 (mkF m 184 #[.val (.int p0), .val (.int p1), .val (.int p2), .val (.int p3), .val (.ref a1), .val (.ref a6), .val (.ref a11), .val (.ref o17)] [(.int (0 : Int32))])
      refine Fin.go (fun _ k => XS.ifNo X22.here hx rfl (hb hby at_184) rfl (XT.i0_ne_f (by decide)) k) ?_
      show Fin _ p e below s _ _ _ T22 (mkF m 187 #[.val (.int p0), .val (.int p1), .val (.int p2), .val (.int p3), .val (.ref a1), .val (.ref a6), .val (.ref a11), .val (.ref o17)] [])
      refine Fin.go (fun _ k => XS.aload X22.here hx rfl (hb hby at_187) rfl rfl k) ?_
      show Fin _ p e below s _ _ _ T22 (mkF m 189 #[.val (.int p0), .val (.int p1), .val (.int p2), .val (.int p3), .val (.ref a1), .val (.ref a6), .val (.ref a11), .val (.ref o17)] [(.ref o17)])
      obtain ⟨v23, T23, L23, X23, q23, st23⟩ := callVt X22 hx hZ (y := (⟨"com/example/termspan/termspan/options/Option", "description", "()Ljava/lang/String;"⟩ : MethodName)) hown (hw _ w_84) (hw _ w_85) (hw _ w_87) (hw _ w_86) (hw _ w_32) (hw _ w_88) (by decide) (W := 0) (rmG_description l Z a0 hw n0 T17.heap O17 o17 (.ref a11) rfl G17_description) e22 A17 (by decide) (by decide) (by decide) (by decide) (g := (mkF m 189 #[.val (.int p0), .val (.int p1), .val (.int p2), .val (.int p3), .val (.ref a1), .val (.ref a6), .val (.ref a11), .val (.ref o17)] [(.ref o17)])) rfl (by rw [hml]; rfl) (argsL := []) (rest := []) (lenOf pd_ocLjava_lang_String_ rfl) rfl (by show 2 * 0 + _ ≤ _; exact Nat.le_of_eq rfl) (hb hby at_189)
      obtain ⟨rfl, e23, rfl⟩ := q23
      have N23 := Fr.app N22 (Fr.nil n0)
      refine Fin.go st23 ?_
      show Fin _ p e below s _ _ _ T23 (mkF m 192 #[.val (.int p0), .val (.int p1), .val (.int p2), .val (.int p3), .val (.ref a1), .val (.ref a6), .val (.ref a11), .val (.ref o17)] [(.ref a11)])
      refine Fin.go (fun _ k => XS.aload X23.here hx rfl (hb hby at_192) rfl rfl k) ?_
      show Fin _ p e below s _ _ _ T23 (mkF m 194 #[.val (.int p0), .val (.int p1), .val (.int p2), .val (.int p3), .val (.ref a1), .val (.ref a6), .val (.ref a11), .val (.ref o17)] [(.ref a11), (.ref a11)])
      refine Fin.go (fun _ k => XT.acmpNo X23.here hx rfl (hb hby at_194) rfl rfl rfl (XT.aa_ne_f rfl) k) ?_
      show Fin _ p e below s _ _ _ T23 (mkF m 197 #[.val (.int p0), .val (.int p1), .val (.int p2), .val (.int p3), .val (.ref a1), .val (.ref a6), .val (.ref a11), .val (.ref o17)] [])
      refine Fin.go (fun _ k => XS.aload X23.here hx rfl (hb hby at_197) rfl rfl k) ?_
      show Fin _ p e below s _ _ _ T23 (mkF m 199 #[.val (.int p0), .val (.int p1), .val (.int p2), .val (.int p3), .val (.ref a1), .val (.ref a6), .val (.ref a11), .val (.ref o17)] [(.ref o17)])
      obtain ⟨v24, T24, L24, X24, q24, st24⟩ := callVt X23 hx hZ (y := (⟨"com/example/termspan/termspan/options/Option", "range", "()Lcom/example/termspan/termspan/options/Option$Range;"⟩ : MethodName)) hown (hw _ w_89) (hw _ w_90) (hw _ w_92) (hw _ w_91) (hw _ w_32) (hw _ w_93) (by decide) (W := 0) (rmG_range l Z a0 hw n0 T17.heap O17 o17 .null rfl G17_range) e23 A17 (by decide) (by decide) (by decide) (by decide) (g := (mkF m 199 #[.val (.int p0), .val (.int p1), .val (.int p2), .val (.int p3), .val (.ref a1), .val (.ref a6), .val (.ref a11), .val (.ref o17)] [(.ref o17)])) rfl (by rw [hml]; rfl) (argsL := []) (rest := []) (lenOf pd_ocLcom_example_termspan_termspan_options_OptionxRange_ rfl) rfl (by show 2 * 0 + _ ≤ _; exact Nat.le_of_eq rfl) (hb hby at_199)
      obtain ⟨rfl, e24, rfl⟩ := q24
      have N24 := Fr.app N23 (Fr.nil n0)
      refine Fin.go st24 ?_
      show Fin _ p e below s _ _ _ T24 (mkF m 202 #[.val (.int p0), .val (.int p1), .val (.int p2), .val (.int p3), .val (.ref a1), .val (.ref a6), .val (.ref a11), .val (.ref o17)] [.null])
      refine Fin.go (fun _ k => XT.ifnonnullNo X24.here hx rfl (hb hby at_202) rfl k) ?_
      show Fin _ p e below s _ _ _ T24 (mkF m 205 #[.val (.int p0), .val (.int p1), .val (.int p2), .val (.int p3), .val (.ref a1), .val (.ref a6), .val (.ref a11), .val (.ref o17)] [])
      refine Fin.go (fun _ k => XS.aload X24.here hx rfl (hb hby at_205) rfl rfl k) ?_
      show Fin _ p e below s _ _ _ T24 (mkF m 207 #[.val (.int p0), .val (.int p1), .val (.int p2), .val (.int p3), .val (.ref a1), .val (.ref a6), .val (.ref a11), .val (.ref o17)] [(.ref o17)])
      obtain ⟨v25, T25, L25, X25, q25, st25⟩ := callVt X24 hx hZ (y := (⟨"com/example/termspan/termspan/options/Option", "isFlag", "()Z"⟩ : MethodName)) hown (hw _ w_94) (hw _ w_95) (hw _ w_97) (hw _ w_96) (hw _ w_32) (hw _ w_98) (by decide) (W := 0) (rmFlR l Z a0 hw n0 T17.heap O17 o17 a6 G17_value) e24 A17 (by decide) (by decide) (by decide) (by decide) (g := (mkF m 207 #[.val (.int p0), .val (.int p1), .val (.int p2), .val (.int p3), .val (.ref a1), .val (.ref a6), .val (.ref a11), .val (.ref o17)] [(.ref o17)])) rfl (by rw [hml]; rfl) (argsL := []) (rest := []) (lenOf pd_ocZ rfl) rfl (by show 2 * 0 + _ ≤ _; exact Nat.le_of_eq rfl) (hb hby at_207)
      obtain ⟨rfl, e25, rfl⟩ := q25
      have N25 := Fr.app N24 (Fr.nil n0)
      refine Fin.go st25 ?_
      show Fin _ p e below s _ _ _ T25 (mkF m 210 #[.val (.int p0), .val (.int p1), .val (.int p2), .val (.int p3), .val (.ref a1), .val (.ref a6), .val (.ref a11), .val (.ref o17)] [(.int (0 : Int32))])
      refine Fin.go (fun _ k => XS.aload X25.here hx rfl (hb hby at_210) rfl rfl k) ?_
      show Fin _ p e below s _ _ _ T25 (mkF m 212 #[.val (.int p0), .val (.int p1), .val (.int p2), .val (.int p3), .val (.ref a1), .val (.ref a6), .val (.ref a11), .val (.ref o17)] [(.ref a6), (.int (0 : Int32))])
      refine Fin.go (fun _ k => XT.ifnonnullYes X25.here hx rfl (pc0 := 212) (pc' := 219) rfl (hb hby at_212) rfl (by decide) (by decide) k) ?_
      show Fin _ p e below s _ _ _ T25 (mkF m 219 #[.val (.int p0), .val (.int p1), .val (.int p2), .val (.int p3), .val (.ref a1), .val (.ref a6), .val (.ref a11), .val (.ref o17)] [(.int (0 : Int32))])
      refine Fin.go (fun _ k => XS.iconst X25.here hx rfl (hb hby at_219) k) ?_
      show Fin _ p e below s _ _ _ T25 (mkF m 220 #[.val (.int p0), .val (.int p1), .val (.int p2), .val (.int p3), .val (.ref a1), .val (.ref a6), .val (.ref a11), .val (.ref o17)] [(.int (0 : Int32)), (.int (0 : Int32))])
      refine Fin.go (fun _ k => XS.icmpNo X25.here hx rfl (hb hby at_220) rfl (XT.ii_ne_f (by decide)) k) ?_
      show Fin _ p e below s _ _ _ T25 (mkF m 223 #[.val (.int p0), .val (.int p1), .val (.int p2), .val (.int p3), .val (.ref a1), .val (.ref a6), .val (.ref a11), .val (.ref o17)] [])
      refine Fin.go (fun _ k => XS.iconst X25.here hx rfl (hb hby at_223) k) ?_
      show Fin _ p e below s _ _ _ T25 (mkF m 224 #[.val (.int p0), .val (.int p1), .val (.int p2), .val (.int p3), .val (.ref a1), .val (.ref a6), .val (.ref a11), .val (.ref o17)] [(.int (1 : Int32))])
      refine Fin.go (fun _ k => XS.goto X25.here hx rfl (pc0 := 224) (pc' := 228) rfl (hb hby at_224) (by decide) (by decide) k) ?_
      show Fin _ p e below s _ _ _ T25 (mkF m 228 #[.val (.int p0), .val (.int p1), .val (.int p2), .val (.int p3), .val (.ref a1), .val (.ref a6), .val (.ref a11), .val (.ref o17)] [(.int (1 : Int32))])
      exact Fin.leaveH X25 hS hk17 hZ hEL e25 RR17 hlk (v := some (.int (nar .boolean (1 : Int32)))) (fun h => by rw [hret] at h; cases h) (by decide) (by decide) ⟨rfl, N25⟩ (fun fs hr => retN X25 hx (t := .boolean) hret (by simp) (hb hby at_228) hr)
    · refine Fin.go (fun _ k => XS.ifNo X10.here hx rfl (hb hby at_79) rfl (XT.i0_eq_f c79) k) ?_
      show Fin _ p e below s _ _ _ T10 (mkF m 82 #[.val (.int p0), .val (.int p1), .val (.int p2), .val (.int p3), .val (.ref a1), .val (.ref a6), .unset, .unset] [])
      obtain ⟨a26, T26, h26, k26, X26, e26, E26, hS26, hj26, hZ26, hown26, RC26, lt26, st26⟩ := ldcOH X10 hx hZ hown (hw _ w_99) (strW hw) (rfl : T10.heap = T10.heap) hS hk10 hEL RR10.1 (g := (mkF m 82 #[.val (.int p0), .val (.int p1), .val (.int p2), .val (.int p3), .val (.ref a1), .val (.ref a6), .unset, .unset] [])) rfl (hb hby at_82) (n := 0) (by decide) (by decide) (by decide) (by decide)
      refine Fin.go st26 ?_
      have O26 := O10.ext E26
      have RR26 := RR10.trans RC26
      have sf26_a1 := (CHr.safe RC26 (((((A5.ext E6).ext E7).wr W8).wr W9).keep Kq10).lt sf10_a1)
      show Fin _ p e below s _ _ _ T26 (mkF m 84 #[.val (.int p0), .val (.int p1), .val (.int p2), .val (.int p3), .val (.ref a1), .val (.ref a6), .unset, .unset] [(.ref a26)])
      refine Fin.go (fun _ k => XS.goto X26.here hx rfl (pc0 := 84) (pc' := 130) rfl (hb hby at_84) (by decide) (by decide) k) ?_
      show Fin _ p e below s _ _ _ T26 (mkF m 130 #[.val (.int p0), .val (.int p1), .val (.int p2), .val (.int p3), .val (.ref a1), .val (.ref a6), .unset, .unset] [(.ref a26)])
      refine Fin.go (fun _ k => XS.astore X26.here hx rfl (hb hby at_130) rfl rfl (l' := #[.val (.int p0), .val (.int p1), .val (.int p2), .val (.int p3), .val (.ref a1), .val (.ref a6), .val (.ref a26), .unset]) rfl k) ?_
      show Fin _ p e below s _ _ _ T26 (mkF m 132 #[.val (.int p0), .val (.int p1), .val (.int p2), .val (.int p3), .val (.ref a1), .val (.ref a6), .val (.ref a26), .unset] [])
      refine Fin.go (fun _ k => XS.aload X26.here hx rfl (hb hby at_132) rfl rfl k) ?_
      show Fin _ p e below s _ _ _ T26 (mkF m 134 #[.val (.int p0), .val (.int p1), .val (.int p2), .val (.int p3), .val (.ref a1), .val (.ref a6), .val (.ref a26), .unset] [(.ref a1)])
      refine Fin.go (fun _ k => XS.aload X26.here hx rfl (hb hby at_134) rfl rfl k) ?_
      show Fin _ p e below s _ _ _ T26 (mkF m 136 #[.val (.int p0), .val (.int p1), .val (.int p2), .val (.int p3), .val (.ref a1), .val (.ref a6), .val (.ref a26), .unset] [(.ref a6), (.ref a1)])
      refine Fin.go (fun _ k => XS.aload X26.here hx rfl (hb hby at_136) rfl rfl k) ?_
      show Fin _ p e below s _ _ _ T26 (mkF m 138 #[.val (.int p0), .val (.int p1), .val (.int p2), .val (.int p3), .val (.ref a1), .val (.ref a6), .val (.ref a26), .unset] [(.ref a26), (.ref a6), (.ref a1)])
      obtain ⟨v27, T27, L27, X27, q27, st27⟩ := callSt X26 hx hZ26 (y := (⟨"com/example/termspan/termspan/options/Option", "optional", "(Ljava/lang/String;Ljava/lang/String;Ljava/lang/String;)Lcom/example/termspan/termspan/options/Option;"⟩ : MethodName)) hown26 (hw _ w_30) (hw _ w_31) (hw _ w_32) (hw _ w_33) (by decide) (W := 0) (rmOpt l Z a0 hw n0 h26 O26 (.ref a1) (.ref a6) (.ref a26) rfl rfl rfl) e26 (by decide) (by decide) (by decide) (by decide) (g := (mkF m 138 #[.val (.int p0), .val (.int p1), .val (.int p2), .val (.int p3), .val (.ref a1), .val (.ref a6), .val (.ref a26), .unset] [(.ref a26), (.ref a6), (.ref a1)])) rfl (by rw [hml]; rfl) (argsL := [(.ref a1), (.ref a6), (.ref a26)]) (rest := []) (lenOf pd_oLjava_lang_String_Ljava_lang_String_Ljava_lang_String_cLcom_example_termspan_termspan_options_Option_ rfl) rfl (by show 2 * 0 + _ ≤ _; exact Nat.le_of_eq rfl) (hb hby at_138)
      obtain ⟨o27, rfl, Nq27, Kq27, A27, G27_name, G27_value, G27_fallback, G27_required, G27_repeatable, G27_description, G27_range⟩ := q27
      have N27 := Fr.app N10 Nq27
      have O27 := O26.keep Kq27 all0
      have RR27 := RR26.trans (CHr.keep Kq27 sf0 RR26.1)
      have hk27 := Nat.le_trans hj26 Kq27.1
      refine Fin.go st27 ?_
      have A27_a1 := (((((((A5.ext E6).ext E7).wr W8).wr W9).keep Kq10).ext E26).keep Kq27)
      show Fin _ p e below s _ _ _ T27 (mkF m 141 #[.val (.int p0), .val (.int p1), .val (.int p2), .val (.int p3), .val (.ref a1), .val (.ref a6), .val (.ref a26), .unset] [(.ref o27)])
      refine Fin.go (fun _ k => XS.astore X27.here hx rfl (hb hby at_141) rfl rfl (l' := #[.val (.int p0), .val (.int p1), .val (.int p2), .val (.int p3), .val (.ref a1), .val (.ref a6), .val (.ref a26), .val (.ref o27)]) rfl k) ?_
      show Fin _ p e below s _ _ _ T27 (mkF m 143 #[.val (.int p0), .val (.int p1), .val (.int p2), .val (.int p3), .val (.ref a1), .val (.ref a6), .val (.ref a26), .val (.ref o27)] [])
      refine Fin.go (fun _ k => XS.aload X27.here hx rfl (hb hby at_143) rfl rfl k) ?_
      show Fin _ p e below s _ _ _ T27 (mkF m 145 #[.val (.int p0), .val (.int p1), .val (.int p2), .val (.int p3), .val (.ref a1), .val (.ref a6), .val (.ref a26), .val (.ref o27)] [(.ref o27)])
      obtain ⟨v28, T28, L28, X28, q28, st28⟩ := callVt X27 hx hZ26 (y := (⟨"com/example/termspan/termspan/options/Option", "name", "()Ljava/lang/String;"⟩ : MethodName)) hown26 (hw _ w_59) (hw _ w_60) (hw _ w_62) (hw _ w_61) (hw _ w_32) (hw _ w_63) (by decide) (W := 0) (rmG_name l Z a0 hw n0 T27.heap O27 o27 (.ref a1) rfl G27_name) (rfl : T27.heap = T27.heap) A27 (by decide) (by decide) (by decide) (by decide) (g := (mkF m 145 #[.val (.int p0), .val (.int p1), .val (.int p2), .val (.int p3), .val (.ref a1), .val (.ref a6), .val (.ref a26), .val (.ref o27)] [(.ref o27)])) rfl (by rw [hml]; rfl) (argsL := []) (rest := []) (lenOf pd_ocLjava_lang_String_ rfl) rfl (by show 2 * 0 + _ ≤ _; exact Nat.le_of_eq rfl) (hb hby at_145)
      obtain ⟨rfl, e28, rfl⟩ := q28
      have N28 := Fr.app N27 (Fr.nil n0)
      refine Fin.go st28 ?_
      show Fin _ p e below s _ _ _ T28 (mkF m 148 #[.val (.int p0), .val (.int p1), .val (.int p2), .val (.int p3), .val (.ref a1), .val (.ref a6), .val (.ref a26), .val (.ref o27)] [(.ref a1)])
      refine Fin.go (fun _ k => XS.aload X28.here hx rfl (hb hby at_148) rfl rfl k) ?_
      show Fin _ p e below s _ _ _ T28 (mkF m 150 #[.val (.int p0), .val (.int p1), .val (.int p2), .val (.int p3), .val (.ref a1), .val (.ref a6), .val (.ref a26), .val (.ref o27)] [(.ref a1), (.ref a1)])
      refine Fin.go (fun _ k => XT.acmpNo X28.here hx rfl (hb hby at_150) rfl rfl rfl (XT.aa_ne_f rfl) k) ?_
      show Fin _ p e below s _ _ _ T28 (mkF m 153 #[.val (.int p0), .val (.int p1), .val (.int p2), .val (.int p3), .val (.ref a1), .val (.ref a6), .val (.ref a26), .val (.ref o27)] [])
      refine Fin.go (fun _ k => XS.aload X28.here hx rfl (hb hby at_153) rfl rfl k) ?_
      show Fin _ p e below s _ _ _ T28 (mkF m 155 #[.val (.int p0), .val (.int p1), .val (.int p2), .val (.int p3), .val (.ref a1), .val (.ref a6), .val (.ref a26), .val (.ref o27)] [(.ref o27)])
      obtain ⟨v29, T29, L29, X29, q29, st29⟩ := callVt X28 hx hZ26 (y := (⟨"com/example/termspan/termspan/options/Option", "value", "()Ljava/lang/String;"⟩ : MethodName)) hown26 (hw _ w_64) (hw _ w_65) (hw _ w_67) (hw _ w_66) (hw _ w_32) (hw _ w_68) (by decide) (W := 0) (rmG_value l Z a0 hw n0 T27.heap O27 o27 (.ref a6) rfl G27_value) e28 A27 (by decide) (by decide) (by decide) (by decide) (g := (mkF m 155 #[.val (.int p0), .val (.int p1), .val (.int p2), .val (.int p3), .val (.ref a1), .val (.ref a6), .val (.ref a26), .val (.ref o27)] [(.ref o27)])) rfl (by rw [hml]; rfl) (argsL := []) (rest := []) (lenOf pd_ocLjava_lang_String_ rfl) rfl (by show 2 * 0 + _ ≤ _; exact Nat.le_of_eq rfl) (hb hby at_155)
      obtain ⟨rfl, e29, rfl⟩ := q29
      have N29 := Fr.app N28 (Fr.nil n0)
      refine Fin.go st29 ?_
      show Fin _ p e below s _ _ _ T29 (mkF m 158 #[.val (.int p0), .val (.int p1), .val (.int p2), .val (.int p3), .val (.ref a1), .val (.ref a6), .val (.ref a26), .val (.ref o27)] [(.ref a6)])
      refine Fin.go (fun _ k => XS.aload X29.here hx rfl (hb hby at_158) rfl rfl k) ?_
      show Fin _ p e below s _ _ _ T29 (mkF m 160 #[.val (.int p0), .val (.int p1), .val (.int p2), .val (.int p3), .val (.ref a1), .val (.ref a6), .val (.ref a26), .val (.ref o27)] [(.ref a6), (.ref a6)])
      refine Fin.go (fun _ k => XT.acmpNo X29.here hx rfl (hb hby at_160) rfl rfl rfl (XT.aa_ne_f rfl) k) ?_
      show Fin _ p e below s _ _ _ T29 (mkF m 163 #[.val (.int p0), .val (.int p1), .val (.int p2), .val (.int p3), .val (.ref a1), .val (.ref a6), .val (.ref a26), .val (.ref o27)] [])
      refine Fin.go (fun _ k => XS.aload X29.here hx rfl (hb hby at_163) rfl rfl k) ?_
      show Fin _ p e below s _ _ _ T29 (mkF m 165 #[.val (.int p0), .val (.int p1), .val (.int p2), .val (.int p3), .val (.ref a1), .val (.ref a6), .val (.ref a26), .val (.ref o27)] [(.ref o27)])
      obtain ⟨v30, T30, L30, X30, q30, st30⟩ := callVt X29 hx hZ26 (y := (⟨"com/example/termspan/termspan/options/Option", "fallback", "()Ljava/lang/String;"⟩ : MethodName)) hown26 (hw _ w_69) (hw _ w_70) (hw _ w_72) (hw _ w_71) (hw _ w_32) (hw _ w_73) (by decide) (W := 0) (rmG_fallback l Z a0 hw n0 T27.heap O27 o27 .null rfl G27_fallback) e29 A27 (by decide) (by decide) (by decide) (by decide) (g := (mkF m 165 #[.val (.int p0), .val (.int p1), .val (.int p2), .val (.int p3), .val (.ref a1), .val (.ref a6), .val (.ref a26), .val (.ref o27)] [(.ref o27)])) rfl (by rw [hml]; rfl) (argsL := []) (rest := []) (lenOf pd_ocLjava_lang_String_ rfl) rfl (by show 2 * 0 + _ ≤ _; exact Nat.le_of_eq rfl) (hb hby at_165)
      obtain ⟨rfl, e30, rfl⟩ := q30
      have N30 := Fr.app N29 (Fr.nil n0)
      refine Fin.go st30 ?_
      show Fin _ p e below s _ _ _ T30 (mkF m 168 #[.val (.int p0), .val (.int p1), .val (.int p2), .val (.int p3), .val (.ref a1), .val (.ref a6), .val (.ref a26), .val (.ref o27)] [.null])
      refine Fin.go (fun _ k => XT.ifnonnullNo X30.here hx rfl (hb hby at_168) rfl k) ?_
      show Fin _ p e below s _ _ _ T30 (mkF m 171 #[.val (.int p0), .val (.int p1), .val (.int p2), .val (.int p3), .val (.ref a1), .val (.ref a6), .val (.ref a26), .val (.ref o27)] [])
      refine Fin.go (fun _ k => XS.aload X30.here hx rfl (hb hby at_171) rfl rfl k) ?_
      show Fin _ p e below s _ _ _ T30 (mkF m 173 #[.val (.int p0), .val (.int p1), .val (.int p2), .val (.int p3), .val (.ref a1), .val (.ref a6), .val (.ref a26), .val (.ref o27)] [(.ref o27)])
      obtain ⟨v31, T31, L31, X31, q31, st31⟩ := callVt X30 hx hZ26 (y := (⟨"com/example/termspan/termspan/options/Option", "required", "()Z"⟩ : MethodName)) hown26 (hw _ w_74) (hw _ w_75) (hw _ w_77) (hw _ w_76) (hw _ w_32) (hw _ w_78) (by decide) (W := 0) (rmG_required l Z a0 hw n0 T27.heap O27 o27 G27_required) e30 A27 (by decide) (by decide) (by decide) (by decide) (g := (mkF m 173 #[.val (.int p0), .val (.int p1), .val (.int p2), .val (.int p3), .val (.ref a1), .val (.ref a6), .val (.ref a26), .val (.ref o27)] [(.ref o27)])) rfl (by rw [hml]; rfl) (argsL := []) (rest := []) (lenOf pd_ocZ rfl) rfl (by show 2 * 0 + _ ≤ _; exact Nat.le_of_eq rfl) (hb hby at_173)
      obtain ⟨rfl, e31, rfl⟩ := q31
      have N31 := Fr.app N30 (Fr.nil n0)
      refine Fin.go st31 ?_
      show Fin _ p e below s _ _ _ T31 (mkF m 176 #[.val (.int p0), .val (.int p1), .val (.int p2), .val (.int p3), .val (.ref a1), .val (.ref a6), .val (.ref a26), .val (.ref o27)] [(.int (0 : Int32))])
      refine Fin.go (fun _ k => XS.ifNo X31.here hx rfl (hb hby at_176) rfl (XT.i0_ne_f (by decide)) k) ?_
      show Fin _ p e below s _ _ _ T31 (mkF m 179 #[.val (.int p0), .val (.int p1), .val (.int p2), .val (.int p3), .val (.ref a1), .val (.ref a6), .val (.ref a26), .val (.ref o27)] [])
      refine Fin.go (fun _ k => XS.aload X31.here hx rfl (hb hby at_179) rfl rfl k) ?_
      show Fin _ p e below s _ _ _ T31 (mkF m 181 #[.val (.int p0), .val (.int p1), .val (.int p2), .val (.int p3), .val (.ref a1), .val (.ref a6), .val (.ref a26), .val (.ref o27)] [(.ref o27)])
      obtain ⟨v32, T32, L32, X32, q32, st32⟩ := callVt X31 hx hZ26 (y := (⟨"com/example/termspan/termspan/options/Option", "repeatable", "()Z"⟩ : MethodName)) hown26 (hw _ w_79) (hw _ w_80) (hw _ w_82) (hw _ w_81) (hw _ w_32) (hw _ w_83) (by decide) (W := 0) (rmG_repeatable l Z a0 hw n0 T27.heap O27 o27 G27_repeatable) e31 A27 (by decide) (by decide) (by decide) (by decide) (g := (mkF m 181 #[.val (.int p0), .val (.int p1), .val (.int p2), .val (.int p3), .val (.ref a1), .val (.ref a6), .val (.ref a26), .val (.ref o27)] [(.ref o27)])) rfl (by rw [hml]; rfl) (argsL := []) (rest := []) (lenOf pd_ocZ rfl) rfl (by show 2 * 0 + _ ≤ _; exact Nat.le_of_eq rfl) (hb hby at_181)
      obtain ⟨rfl, e32, rfl⟩ := q32
      have N32 := Fr.app N31 (Fr.nil n0)
      refine Fin.go st32 ?_
      show Fin _ p e below s _ _ _ T32 (mkF m 184 #[.val (.int p0), .val (.int p1), .val (.int p2), .val (.int p3), .val (.ref a1), .val (.ref a6), .val (.ref a26), .val (.ref o27)] [(.int (0 : Int32))])
      refine Fin.go (fun _ k => XS.ifNo X32.here hx rfl (hb hby at_184) rfl (XT.i0_ne_f (by decide)) k) ?_
      show Fin _ p e below s _ _ _ T32 (mkF m 187 #[.val (.int p0), .val (.int p1), .val (.int p2), .val (.int p3), .val (.ref a1), .val (.ref a6), .val (.ref a26), .val (.ref o27)] [])
      refine Fin.go (fun _ k => XS.aload X32.here hx rfl (hb hby at_187) rfl rfl k) ?_
      show Fin _ p e below s _ _ _ T32 (mkF m 189 #[.val (.int p0), .val (.int p1), .val (.int p2), .val (.int p3), .val (.ref a1), .val (.ref a6), .val (.ref a26), .val (.ref o27)] [(.ref o27)])
      obtain ⟨v33, T33, L33, X33, q33, st33⟩ := callVt X32 hx hZ26 (y := (⟨"com/example/termspan/termspan/options/Option", "description", "()Ljava/lang/String;"⟩ : MethodName)) hown26 (hw _ w_84) (hw _ w_85) (hw _ w_87) (hw _ w_86) (hw _ w_32) (hw _ w_88) (by decide) (W := 0) (rmG_description l Z a0 hw n0 T27.heap O27 o27 (.ref a26) rfl G27_description) e32 A27 (by decide) (by decide) (by decide) (by decide) (g := (mkF m 189 #[.val (.int p0), .val (.int p1), .val (.int p2), .val (.int p3), .val (.ref a1), .val (.ref a6), .val (.ref a26), .val (.ref o27)] [(.ref o27)])) rfl (by rw [hml]; rfl) (argsL := []) (rest := []) (lenOf pd_ocLjava_lang_String_ rfl) rfl (by show 2 * 0 + _ ≤ _; exact Nat.le_of_eq rfl) (hb hby at_189)
      obtain ⟨rfl, e33, rfl⟩ := q33
      have N33 := Fr.app N32 (Fr.nil n0)
      refine Fin.go st33 ?_
      show Fin _ p e below s _ _ _ T33 (mkF m 192 #[.val (.int p0), .val (.int p1), .val (.int p2), .val (.int p3), .val (.ref a1), .val (.ref a6), .val (.ref a26), .val (.ref o27)] [(.ref a26)])
      refine Fin.go (fun _ k => XS.aload X33.here hx rfl (hb hby at_192) rfl rfl k) ?_
      show Fin _ p e below s _ _ _ T33 (mkF m 194 #[.val (.int p0), .val (.int p1), .val (.int p2), .val (.int p3), .val (.ref a1), .val (.ref a6), .val (.ref a26), .val (.ref o27)] [(.ref a26), (.ref a26)])
      refine Fin.go (fun _ k => XT.acmpNo X33.here hx rfl (hb hby at_194) rfl rfl rfl (XT.aa_ne_f rfl) k) ?_
      show Fin _ p e below s _ _ _ T33 (mkF m 197 #[.val (.int p0), .val (.int p1), .val (.int p2), .val (.int p3), .val (.ref a1), .val (.ref a6), .val (.ref a26), .val (.ref o27)] [])
      refine Fin.go (fun _ k => XS.aload X33.here hx rfl (hb hby at_197) rfl rfl k) ?_
      show Fin _ p e below s _ _ _ T33 (mkF m 199 #[.val (.int p0), .val (.int p1), .val (.int p2), .val (.int p3), .val (.ref a1), .val (.ref a6), .val (.ref a26), .val (.ref o27)] [(.ref o27)])
      obtain ⟨v34, T34, L34, X34, q34, st34⟩ := callVt X33 hx hZ26 (y := (⟨"com/example/termspan/termspan/options/Option", "range", "()Lcom/example/termspan/termspan/options/Option$Range;"⟩ : MethodName)) hown26 (hw _ w_89) (hw _ w_90) (hw _ w_92) (hw _ w_91) (hw _ w_32) (hw _ w_93) (by decide) (W := 0) (rmG_range l Z a0 hw n0 T27.heap O27 o27 .null rfl G27_range) e33 A27 (by decide) (by decide) (by decide) (by decide) (g := (mkF m 199 #[.val (.int p0), .val (.int p1), .val (.int p2), .val (.int p3), .val (.ref a1), .val (.ref a6), .val (.ref a26), .val (.ref o27)] [(.ref o27)])) rfl (by rw [hml]; rfl) (argsL := []) (rest := []) (lenOf pd_ocLcom_example_termspan_termspan_options_OptionxRange_ rfl) rfl (by show 2 * 0 + _ ≤ _; exact Nat.le_of_eq rfl) (hb hby at_199)
      obtain ⟨rfl, e34, rfl⟩ := q34
      have N34 := Fr.app N33 (Fr.nil n0)
      refine Fin.go st34 ?_
      show Fin _ p e below s _ _ _ T34 (mkF m 202 #[.val (.int p0), .val (.int p1), .val (.int p2), .val (.int p3), .val (.ref a1), .val (.ref a6), .val (.ref a26), .val (.ref o27)] [.null])
      refine Fin.go (fun _ k => XT.ifnonnullNo X34.here hx rfl (hb hby at_202) rfl k) ?_
      show Fin _ p e below s _ _ _ T34 (mkF m 205 #[.val (.int p0), .val (.int p1), .val (.int p2), .val (.int p3), .val (.ref a1), .val (.ref a6), .val (.ref a26), .val (.ref o27)] [])
      refine Fin.go (fun _ k => XS.aload X34.here hx rfl (hb hby at_205) rfl rfl k) ?_
      show Fin _ p e below s _ _ _ T34 (mkF m 207 #[.val (.int p0), .val (.int p1), .val (.int p2), .val (.int p3), .val (.ref a1), .val (.ref a6), .val (.ref a26), .val (.ref o27)] [(.ref o27)])
      obtain ⟨v35, T35, L35, X35, q35, st35⟩ := callVt X34 hx hZ26 (y := (⟨"com/example/termspan/termspan/options/Option", "isFlag", "()Z"⟩ : MethodName)) hown26 (hw _ w_94) (hw _ w_95) (hw _ w_97) (hw _ w_96) (hw _ w_32) (hw _ w_98) (by decide) (W := 0) (rmFlR l Z a0 hw n0 T27.heap O27 o27 a6 G27_value) e34 A27 (by decide) (by decide) (by decide) (by decide) (g := (mkF m 207 #[.val (.int p0), .val (.int p1), .val (.int p2), .val (.int p3), .val (.ref a1), .val (.ref a6), .val (.ref a26), .val (.ref o27)] [(.ref o27)])) rfl (by rw [hml]; rfl) (argsL := []) (rest := []) (lenOf pd_ocZ rfl) rfl (by show 2 * 0 + _ ≤ _; exact Nat.le_of_eq rfl) (hb hby at_207)
      obtain ⟨rfl, e35, rfl⟩ := q35
      have N35 := Fr.app N34 (Fr.nil n0)
      refine Fin.go st35 ?_
      show Fin _ p e below s _ _ _ T35 (mkF m 210 #[.val (.int p0), .val (.int p1), .val (.int p2), .val (.int p3), .val (.ref a1), .val (.ref a6), .val (.ref a26), .val (.ref o27)] [(.int (0 : Int32))])
      refine Fin.go (fun _ k => XS.aload X35.here hx rfl (hb hby at_210) rfl rfl k) ?_
      show Fin _ p e below s _ _ _ T35 (mkF m 212 #[.val (.int p0), .val (.int p1), .val (.int p2), .val (.int p3), .val (.ref a1), .val (.ref a6), .val (.ref a26), .val (.ref o27)] [(.ref a6), (.int (0 : Int32))])
      refine Fin.go (fun _ k => XT.ifnonnullYes X35.here hx rfl (pc0 := 212) (pc' := 219) rfl (hb hby at_212) rfl (by decide) (by decide) k) ?_
      show Fin _ p e below s _ _ _ T35 (mkF m 219 #[.val (.int p0), .val (.int p1), .val (.int p2), .val (.int p3), .val (.ref a1), .val (.ref a6), .val (.ref a26), .val (.ref o27)] [(.int (0 : Int32))])
      refine Fin.go (fun _ k => XS.iconst X35.here hx rfl (hb hby at_219) k) ?_
      show Fin _ p e below s _ _ _ T35 (mkF m 220 #[.val (.int p0), .val (.int p1), .val (.int p2), .val (.int p3), .val (.ref a1), .val (.ref a6), .val (.ref a26), .val (.ref o27)] [(.int (0 : Int32)), (.int (0 : Int32))])
      refine Fin.go (fun _ k => XS.icmpNo X35.here hx rfl (hb hby at_220) rfl (XT.ii_ne_f (by decide)) k) ?_
      show Fin _ p e below s _ _ _ T35 (mkF m 223 #[.val (.int p0), .val (.int p1), .val (.int p2), .val (.int p3), .val (.ref a1), .val (.ref a6), .val (.ref a26), .val (.ref o27)] [])
      refine Fin.go (fun _ k => XS.iconst X35.here hx rfl (hb hby at_223) k) ?_
      show Fin _ p e below s _ _ _ T35 (mkF m 224 #[.val (.int p0), .val (.int p1), .val (.int p2), .val (.int p3), .val (.ref a1), .val (.ref a6), .val (.ref a26), .val (.ref o27)] [(.int (1 : Int32))])
      refine Fin.go (fun _ k => XS.goto X35.here hx rfl (pc0 := 224) (pc' := 228) rfl (hb hby at_224) (by decide) (by decide) k) ?_
      show Fin _ p e below s _ _ _ T35 (mkF m 228 #[.val (.int p0), .val (.int p1), .val (.int p2), .val (.int p3), .val (.ref a1), .val (.ref a6), .val (.ref a26), .val (.ref o27)] [(.int (1 : Int32))])
      exact Fin.leaveH X35 hS26 hk27 hZ26 hEL e35 RR27 hlk (v := some (.int (nar .boolean (1 : Int32)))) (fun h => by rw [hret] at h; cases h) (by decide) (by decide) ⟨rfl, N35⟩ (fun fs hr => retN X35 hx (t := .boolean) hret (by simp) (hb hby at_228) hr)
  · refine Fin.go (fun _ k => XS.ifNo X5.here hx rfl (hb hby at_36) rfl (XT.i0_eq_f c36) k) ?_
    show Fin _ p e below s _ _ _ T5 (mkF m 39 #[.val (.int p0), .val (.int p1), .val (.int p2), .val (.int p3), .val (.ref a1), .unset, .unset, .unset] [])
    refine Fin.go (fun _ k => XS.aconstNull X5.here hx rfl (hb hby at_39) k) ?_
    show Fin _ p e below s _ _ _ T5 (mkF m 40 #[.val (.int p0), .val (.int p1), .val (.int p2), .val (.int p3), .val (.ref a1), .unset, .unset, .unset] [.null])
    refine Fin.go (fun _ k => XS.goto X5.here hx rfl (pc0 := 40) (pc' := 74) rfl (hb hby at_40) (by decide) (by decide) k) ?_
    show Fin _ p e below s _ _ _ T5 (mkF m 74 #[.val (.int p0), .val (.int p1), .val (.int p2), .val (.int p3), .val (.ref a1), .unset, .unset, .unset] [.null])
    refine Fin.go (fun _ k => XS.astore X5.here hx rfl (hb hby at_74) rfl rfl (l' := #[.val (.int p0), .val (.int p1), .val (.int p2), .val (.int p3), .val (.ref a1), .val .null, .unset, .unset]) rfl k) ?_
    show Fin _ p e below s _ _ _ T5 (mkF m 76 #[.val (.int p0), .val (.int p1), .val (.int p2), .val (.int p3), .val (.ref a1), .val .null, .unset, .unset] [])
    refine Fin.go (fun _ k => XS.iloadN X5.here hx rfl (hb hby at_76) rfl k) ?_
    show Fin _ p e below s _ _ _ T5 (mkF m 77 #[.val (.int p0), .val (.int p1), .val (.int p2), .val (.int p3), .val (.ref a1), .val .null, .unset, .unset] [(.int p3)])
    refine Fin.go (fun _ k => XS.iconst X5.here hx rfl (hb hby at_77) k) ?_
    show Fin _ p e below s _ _ _ T5 (mkF m 78 #[.val (.int p0), .val (.int p1), .val (.int p2), .val (.int p3), .val (.ref a1), .val .null, .unset, .unset] [(.int (2 : Int32)), (.int p3)])
    refine Fin.go (fun _ k => XS.iand X5.here hx rfl (hb hby at_78) rfl k) ?_
    show Fin _ p e below s _ _ _ T5 (mkF m 79 #[.val (.int p0), .val (.int p1), .val (.int p2), .val (.int p3), .val (.ref a1), .val .null, .unset, .unset] [(.int (p3 &&& (2 : Int32)))])
    by_cases c79 : (p3 &&& (2 : Int32)) = 0
    · refine Fin.go (fun _ k => XS.ifYes X5.here hx rfl (pc0 := 79) (pc' := 87) rfl (hb hby at_79) rfl (XT.i0_eq_t c79) (by decide) (by decide) k) ?_
      show Fin _ p e below s _ _ _ T5 (mkF m 87 #[.val (.int p0), .val (.int p1), .val (.int p2), .val (.int p3), .val (.ref a1), .val .null, .unset, .unset] [])
      obtain ⟨T36, h36, X36, e36, E36, A36, D36, U36, st36⟩ := newO X5 hx hZ hown (hw _ w_0) (hw _ w_1) (hw _ w_2) (rfl : T5.heap = T5.heap) (g := (mkF m 87 #[.val (.int p0), .val (.int p1), .val (.int p2), .val (.int p3), .val (.ref a1), .val .null, .unset, .unset] [])) rfl (hb hby at_87) (by decide) (by decide)
      obtain ⟨a36, g36⟩ : ∃ z, z = T5.heap.size := ⟨_, rfl⟩
      rw [← g36] at A36 D36 U36 st36
      refine Fin.go st36 ?_
      have O36 := O5.ext E36
      have hk36 := Nat.le_trans hk5 E36.1
      have RR36 := RR5.trans (CHr.ext E36 RR5.1)
      have n36 : n0 ≤ a36 := by have := O5.2.1; have := O5.1; omega
      have sf36 := (Safe.new (Z := Z) (EL := EL) (vm := s.vm) (Nat.le_of_eq g36.symm)).ext E36 RR5.1
      have F36_coder : Fld Z h36 a36 "java/lang/String" "coder" "B" (.int (0 : Int32)) := D36 (Or.inr (hw _ w_27)) (ty := .byte) (by decide)
      have F36_value : Fld Z h36 a36 "java/lang/String" "value" "[B" .null := D36 (Or.inr (hw _ w_29)) (ty := (.array .byte)) (by decide)
      show Fin _ p e below s _ _ _ T36 (mkF m 90 #[.val (.int p0), .val (.int p1), .val (.int p2), .val (.int p3), .val (.ref a1), .val .null, .unset, .unset] [(.ref a36)])
      refine Fin.go (fun _ k => XS.dup X36.here hx rfl (hb hby at_90) rfl rfl k) ?_
      show Fin _ p e below s _ _ _ T36 (mkF m 91 #[.val (.int p0), .val (.int p1), .val (.int p2), .val (.int p3), .val (.ref a1), .val .null, .unset, .unset] [(.ref a36), (.ref a36)])
      refine Fin.go (fun _ k => XS.iconst X36.here hx rfl (hb hby at_91) k) ?_
      show Fin _ p e below s _ _ _ T36 (mkF m 92 #[.val (.int p0), .val (.int p1), .val (.int p2), .val (.int p3), .val (.ref a1), .val .null, .unset, .unset] [(.int (3 : Int32)), (.ref a36), (.ref a36)])
      obtain ⟨T37, h37, k37, X37, e37, E37, A37, st37⟩ := newP X36 hx hZ (aty := .char) (hw _ w_3) e36 (g := (mkF m 92 #[.val (.int p0), .val (.int p1), .val (.int p2), .val (.int p3), .val (.ref a1), .val .null, .unset, .unset] [(.int (3 : Int32)), (.ref a36), (.ref a36)])) rfl (hb hby at_92) rfl (by decide : ¬ ((3 : Int32) < (0 : Int32))) (cap := 3) (by decide) (by decide) (by decide) (by decide)
      obtain ⟨a37, g37⟩ : ∃ z, z = h36.size := ⟨_, rfl⟩
      rw [← g37] at A37 st37
      refine Fin.go st37 ?_
      have O37 := O36.ext E37
      have hk37 := Nat.le_trans hk36 E37.1
      have RR37 := RR36.trans (CHr.ext E37 RR36.1)
      have n37 : n0 ≤ a37 := by have := O36.2.1; have := O36.1; omega
      have V37 : Arv Z h37 a37 k37 .char (3 : Int32) [(.int (0 : Int32)), (.int (0 : Int32)), (.int (0 : Int32))] (.int (0 : Int32)) := (Arv.new A37 (by decide)).pad (pad_rep [] (.int (0 : Int32)) 3)
      show Fin _ p e below s _ _ _ T37 (mkF m 94 #[.val (.int p0), .val (.int p1), .val (.int p2), .val (.int p3), .val (.ref a1), .val .null, .unset, .unset] [(.ref a37), (.ref a36), (.ref a36)])
      refine Fin.go (fun _ k => XS.dup X37.here hx rfl (hb hby at_94) rfl rfl k) ?_
      show Fin _ p e below s _ _ _ T37 (mkF m 95 #[.val (.int p0), .val (.int p1), .val (.int p2), .val (.int p3), .val (.ref a1), .val .null, .unset, .unset] [(.ref a37), (.ref a37), (.ref a36), (.ref a36)])
      refine Fin.go (fun _ k => XS.iconst X37.here hx rfl (hb hby at_95) k) ?_
      show Fin _ p e below s _ _ _ T37 (mkF m 96 #[.val (.int p0), .val (.int p1), .val (.int p2), .val (.int p3), .val (.ref a1), .val .null, .unset, .unset] [(.int (0 : Int32)), (.ref a37), (.ref a37), (.ref a36), (.ref a36)])
      refine Fin.go (fun _ k => XS.iloadN X37.here hx rfl (hb hby at_96) rfl k) ?_
      show Fin _ p e below s _ _ _ T37 (mkF m 97 #[.val (.int p0), .val (.int p1), .val (.int p2), .val (.int p3), .val (.ref a1), .val .null, .unset, .unset] [(.int p2), (.int (0 : Int32)), (.ref a37), (.ref a37), (.ref a36), (.ref a36)])
      refine Fin.go (fun _ k => XS.sipush X37.here hx rfl (hb hby at_97) k) ?_
      show Fin _ p e below s _ _ _ T37 (mkF m 100 #[.val (.int p0), .val (.int p1), .val (.int p2), .val (.int p3), .val (.ref a1), .val .null, .unset, .unset] [(.int (255 : Int32)), (.int p2), (.int (0 : Int32)), (.ref a37), (.ref a37), (.ref a36), (.ref a36)])
      refine Fin.go (fun _ k => XS.iand X37.here hx rfl (hb hby at_100) rfl k) ?_
      show Fin _ p e below s _ _ _ T37 (mkF m 101 #[.val (.int p0), .val (.int p1), .val (.int p2), .val (.int p3), .val (.ref a1), .val .null, .unset, .unset] [(.int (p2 &&& (255 : Int32))), (.int (0 : Int32)), (.ref a37), (.ref a37), (.ref a36), (.ref a36)])
      refine Fin.go (fun _ k => XT.i2c X37.here hx rfl (hb hby at_101) rfl k) ?_
      show Fin _ p e below s _ _ _ T37 (mkF m 102 #[.val (.int p0), .val (.int p1), .val (.int p2), .val (.int p3), .val (.ref a1), .val .null, .unset, .unset] [(.int ((Int32.toUInt32 (p2 &&& (255 : Int32))).toUInt16.toUInt32.toInt32)), (.int (0 : Int32)), (.ref a37), (.ref a37), (.ref a36), (.ref a36)])
      obtain ⟨c38, B38, q38, S38, M38, H38, G38⟩ := id V37
      obtain ⟨T38, h38, X38, e38, W38, st38⟩ := stC X37 hx hZ e37 B38 (j := (0 : Int32)) (inb_of S38 ⟨(by decide : ¬ ((0 : Int32) < (0 : Int32))), (by decide : (0 : Int32) < (3 : Int32))⟩) (g := (mkF m 102 #[.val (.int p0), .val (.int p1), .val (.int p2), .val (.int p3), .val (.ref a1), .val .null, .unset, .unset] [(.int ((Int32.toUInt32 (p2 &&& (255 : Int32))).toUInt16.toUInt32.toInt32)), (.int (0 : Int32)), (.ref a37), (.ref a37), (.ref a36), (.ref a36)])) rfl rfl (hb hby at_102)
      refine Fin.go st38 ?_
      have V38 : Arv Z h38 a37 k37 .char (3 : Int32) [(.int ((Int32.toUInt32 (p2 &&& (255 : Int32))).toUInt16.toUInt32.toInt32)), (.int (0 : Int32)), (.int (0 : Int32))] (.int (0 : Int32)) := (by have q : Arv Z h38 a37 k37 .char (3 : Int32) [(.int (nar .char ((Int32.toUInt32 (p2 &&& (255 : Int32))).toUInt16.toUInt32.toInt32))), (.int (0 : Int32)), (.int (0 : Int32))] (.int (0 : Int32)) := (Arv.set B38 q38 S38 M38 H38 G38 (fits_nar_char _) W38 0 rfl (Nat.le_of_ble_eq_true rfl)); rwa [nar_c16] at q)
      have N38 := Fr.snoc X38 N5 n37
      have O38 := O37.wr W38 n37
      have hk38 := Nat.le_trans hk37 (Keep.of_wr W38).1
      have RR38 := RR37.trans (CHr.wr W38 (Safe.arv hZ.alike V37 (by decide)) RR37.1)
      have sf38_a1 := (Safe.wr W38 (Safe.arv hZ.alike V37 (by decide)) RR37.1 ((sf5_a1.ext E36 RR5.1).ext E37 RR36.1))
      have V38_a2 := (((V5_a2.ext E36).ext E37).other W38 (Nat.ne_of_lt (Nat.lt_of_lt_of_eq (V5_a2.ext E36).lt g37.symm)))
      have F38_a1_coder := (((C5.ext E36).ext E37).other W38 (Or.inl (Nat.ne_of_lt (Nat.lt_of_lt_of_eq (A5.ext E36).lt g37.symm))))
      have F38_a1_value := (((F5.ext E36).ext E37).other W38 (Or.inl (Nat.ne_of_lt (Nat.lt_of_lt_of_eq (A5.ext E36).lt g37.symm))))
      have V38_d5 := (((V5.ext E36).ext E37).other W38 (Nat.ne_of_lt (Nat.lt_of_lt_of_eq (V5.ext E36).lt g37.symm)))
      have sf38_a36 := (Safe.wr W38 (Safe.arv hZ.alike V37 (by decide)) RR37.1 (sf36.ext E37 RR36.1))
      have F38_a36_coder := ((F36_coder.ext E37).other W38 (Or.inl (Nat.ne_of_lt (Nat.lt_of_lt_of_eq A36.lt g37.symm))))
      have F38_a36_value := ((F36_value.ext E37).other W38 (Or.inl (Nat.ne_of_lt (Nat.lt_of_lt_of_eq A36.lt g37.symm))))
      show Fin _ p e below s _ _ _ T38 (mkF m 103 #[.val (.int p0), .val (.int p1), .val (.int p2), .val (.int p3), .val (.ref a1), .val .null, .unset, .unset] [(.ref a37), (.ref a36), (.ref a36)])
      refine Fin.go (fun _ k => XS.dup X38.here hx rfl (hb hby at_103) rfl rfl k) ?_
      show Fin _ p e below s _ _ _ T38 (mkF m 104 #[.val (.int p0), .val (.int p1), .val (.int p2), .val (.int p3), .val (.ref a1), .val .null, .unset, .unset] [(.ref a37), (.ref a37), (.ref a36), (.ref a36)])
      refine Fin.go (fun _ k => XS.iconst X38.here hx rfl (hb hby at_104) k) ?_
      show Fin _ p e below s _ _ _ T38 (mkF m 105 #[.val (.int p0), .val (.int p1), .val (.int p2), .val (.int p3), .val (.ref a1), .val .null, .unset, .unset] [(.int (1 : Int32)), (.ref a37), (.ref a37), (.ref a36), (.ref a36)])
      refine Fin.go (fun _ k => XS.iloadN X38.here hx rfl (hb hby at_105) rfl k) ?_
      show Fin _ p e below s _ _ _ T38 (mkF m 106 #[.val (.int p0), .val (.int p1), .val (.int p2), .val (.int p3), .val (.ref a1), .val .null, .unset, .unset] [(.int p2), (.int (1 : Int32)), (.ref a37), (.ref a37), (.ref a36), (.ref a36)])
      refine Fin.go (fun _ k => XS.bipush X38.here hx rfl (hb hby at_106) k) ?_
      show Fin _ p e below s _ _ _ T38 (mkF m 108 #[.val (.int p0), .val (.int p1), .val (.int p2), .val (.int p3), .val (.ref a1), .val .null, .unset, .unset] [(.int (8 : Int32)), (.int p2), (.int (1 : Int32)), (.ref a37), (.ref a37), (.ref a36), (.ref a36)])
      refine Fin.go (fun _ k => XT.iushr X38.here hx rfl (hb hby at_108) rfl k) ?_
      show Fin _ p e below s _ _ _ T38 (mkF m 109 #[.val (.int p0), .val (.int p1), .val (.int p2), .val (.int p3), .val (.ref a1), .val .null, .unset, .unset] [(.int (XT.ushr p2 (8 : Int32))), (.int (1 : Int32)), (.ref a37), (.ref a37), (.ref a36), (.ref a36)])
      refine Fin.go (fun _ k => XS.sipush X38.here hx rfl (hb hby at_109) k) ?_
      show Fin _ p e below s _ _ _ T38 (mkF m 112 #[.val (.int p0), .val (.int p1), .val (.int p2), .val (.int p3), .val (.ref a1), .val .null, .unset, .unset] [(.int (255 : Int32)), (.int (XT.ushr p2 (8 : Int32))), (.int (1 : Int32)), (.ref a37), (.ref a37), (.ref a36), (.ref a36)])
      refine Fin.go (fun _ k => XS.iand X38.here hx rfl (hb hby at_112) rfl k) ?_
      show Fin _ p e below s _ _ _ T38 (mkF m 113 #[.val (.int p0), .val (.int p1), .val (.int p2), .val (.int p3), .val (.ref a1), .val .null, .unset, .unset] [(.int ((XT.ushr p2 (8 : Int32)) &&& (255 : Int32))), (.int (1 : Int32)), (.ref a37), (.ref a37), (.ref a36), (.ref a36)])
      refine Fin.go (fun _ k => XT.i2c X38.here hx rfl (hb hby at_113) rfl k) ?_
      show Fin _ p e below s _ _ _ T38 (mkF m 114 #[.val (.int p0), .val (.int p1), .val (.int p2), .val (.int p3), .val (.ref a1), .val .null, .unset, .unset] [(.int ((Int32.toUInt32 ((XT.ushr p2 (8 : Int32)) &&& (255 : Int32))).toUInt16.toUInt32.toInt32)), (.int (1 : Int32)), (.ref a37), (.ref a37), (.ref a36), (.ref a36)])
      obtain ⟨c39, B39, q39, S39, M39, H39, G39⟩ := id V38
      obtain ⟨T39, h39, X39, e39, W39, st39⟩ := stC X38 hx hZ e38 B39 (j := (1 : Int32)) (inb_of S39 ⟨(by decide : ¬ ((1 : Int32) < (0 : Int32))), (by decide : (1 : Int32) < (3 : Int32))⟩) (g := (mkF m 114 #[.val (.int p0), .val (.int p1), .val (.int p2), .val (.int p3), .val (.ref a1), .val .null, .unset, .unset] [(.int ((Int32.toUInt32 ((XT.ushr p2 (8 : Int32)) &&& (255 : Int32))).toUInt16.toUInt32.toInt32)), (.int (1 : Int32)), (.ref a37), (.ref a37), (.ref a36), (.ref a36)])) rfl rfl (hb hby at_114)
      refine Fin.go st39 ?_
      have V39 : Arv Z h39 a37 k37 .char (3 : Int32) [(.int ((Int32.toUInt32 (p2 &&& (255 : Int32))).toUInt16.toUInt32.toInt32)), (.int ((Int32.toUInt32 ((XT.ushr p2 (8 : Int32)) &&& (255 : Int32))).toUInt16.toUInt32.toInt32)), (.int (0 : Int32))] (.int (0 : Int32)) := (by have q : Arv Z h39 a37 k37 .char (3 : Int32) [(.int ((Int32.toUInt32 (p2 &&& (255 : Int32))).toUInt16.toUInt32.toInt32)), (.int (nar .char ((Int32.toUInt32 ((XT.ushr p2 (8 : Int32)) &&& (255 : Int32))).toUInt16.toUInt32.toInt32))), (.int (0 : Int32))] (.int (0 : Int32)) := (Arv.set B39 q39 S39 M39 H39 G39 (fits_nar_char _) W39 1 rfl (Nat.le_of_ble_eq_true rfl)); rwa [nar_c16] at q)
      have N39 := Fr.snoc X39 N38 n37
      have O39 := O38.wr W39 n37
      have hk39 := Nat.le_trans hk38 (Keep.of_wr W39).1
      have RR39 := RR38.trans (CHr.wr W39 (Safe.arv hZ.alike V38 (by decide)) RR38.1)
      have sf39_a1 := (Safe.wr W39 (Safe.arv hZ.alike V38 (by decide)) RR38.1 sf38_a1)
      have V39_a2 := (V38_a2.other W39 (Nat.ne_of_lt (Nat.lt_of_lt_of_eq (V5_a2.ext E36).lt g37.symm)))
      have F39_a1_coder := (F38_a1_coder.other W39 (Or.inl (Nat.ne_of_lt (Nat.lt_of_lt_of_eq (A5.ext E36).lt g37.symm))))
      have F39_a1_value := (F38_a1_value.other W39 (Or.inl (Nat.ne_of_lt (Nat.lt_of_lt_of_eq (A5.ext E36).lt g37.symm))))
      have V39_d5 := (V38_d5.other W39 (Nat.ne_of_lt (Nat.lt_of_lt_of_eq (V5.ext E36).lt g37.symm)))
      have sf39_a36 := (Safe.wr W39 (Safe.arv hZ.alike V38 (by decide)) RR38.1 sf38_a36)
      have F39_a36_coder := (F38_a36_coder.other W39 (Or.inl (Nat.ne_of_lt (Nat.lt_of_lt_of_eq A36.lt g37.symm))))
      have F39_a36_value := (F38_a36_value.other W39 (Or.inl (Nat.ne_of_lt (Nat.lt_of_lt_of_eq A36.lt g37.symm))))
      show Fin _ p e below s _ _ _ T39 (mkF m 115 #[.val (.int p0), .val (.int p1), .val (.int p2), .val (.int p3), .val (.ref a1), .val .null, .unset, .unset] [(.ref a37), (.ref a36), (.ref a36)])
      refine Fin.go (fun _ k => XS.dup X39.here hx rfl (hb hby at_115) rfl rfl k) ?_
      show Fin _ p e below s _ _ _ T39 (mkF m 116 #[.val (.int p0), .val (.int p1), .val (.int p2), .val (.int p3), .val (.ref a1), .val .null, .unset, .unset] [(.ref a37), (.ref a37), (.ref a36), (.ref a36)])
      refine Fin.go (fun _ k => XS.iconst X39.here hx rfl (hb hby at_116) k) ?_
      show Fin _ p e below s _ _ _ T39 (mkF m 117 #[.val (.int p0), .val (.int p1), .val (.int p2), .val (.int p3), .val (.ref a1), .val .null, .unset, .unset] [(.int (2 : Int32)), (.ref a37), (.ref a37), (.ref a36), (.ref a36)])
      refine Fin.go (fun _ k => XS.iloadN X39.here hx rfl (hb hby at_117) rfl k) ?_
      show Fin _ p e below s _ _ _ T39 (mkF m 118 #[.val (.int p0), .val (.int p1), .val (.int p2), .val (.int p3), .val (.ref a1), .val .null, .unset, .unset] [(.int p2), (.int (2 : Int32)), (.ref a37), (.ref a37), (.ref a36), (.ref a36)])
      refine Fin.go (fun _ k => XS.bipush X39.here hx rfl (hb hby at_118) k) ?_
      show Fin _ p e below s _ _ _ T39 (mkF m 120 #[.val (.int p0), .val (.int p1), .val (.int p2), .val (.int p3), .val (.ref a1), .val .null, .unset, .unset] [(.int (16 : Int32)), (.int p2), (.int (2 : Int32)), (.ref a37), (.ref a37), (.ref a36), (.ref a36)])
      refine Fin.go (fun _ k => XT.iushr X39.here hx rfl (hb hby at_120) rfl k) ?_
      show Fin _ p e below s _ _ _ T39 (mkF m 121 #[.val (.int p0), .val (.int p1), .val (.int p2), .val (.int p3), .val (.ref a1), .val .null, .unset, .unset] [(.int (XT.ushr p2 (16 : Int32))), (.int (2 : Int32)), (.ref a37), (.ref a37), (.ref a36), (.ref a36)])
      refine Fin.go (fun _ k => XS.sipush X39.here hx rfl (hb hby at_121) k) ?_
      show Fin _ p e below s _ _ _ T39 (mkF m 124 #[.val (.int p0), .val (.int p1), .val (.int p2), .val (.int p3), .val (.ref a1), .val .null, .unset, .unset] [(.int (255 : Int32)), (.int (XT.ushr p2 (16 : Int32))), (.int (2 : Int32)), (.ref a37), (.ref a37), (.ref a36), (.ref a36)])
      refine Fin.go (fun _ k => XS.iand X39.here hx rfl (hb hby at_124) rfl k) ?_
      show Fin _ p e below s _ _ _ T39 (mkF m 125 #[.val (.int p0), .val (.int p1), .val (.int p2), .val (.int p3), .val (.ref a1), .val .null, .unset, .unset] [(.int ((XT.ushr p2 (16 : Int32)) &&& (255 : Int32))), (.int (2 : Int32)), (.ref a37), (.ref a37), (.ref a36), (.ref a36)])
      refine Fin.go (fun _ k => XT.i2c X39.here hx rfl (hb hby at_125) rfl k) ?_
      show Fin _ p e below s _ _ _ T39 (mkF m 126 #[.val (.int p0), .val (.int p1), .val (.int p2), .val (.int p3), .val (.ref a1), .val .null, .unset, .unset] [(.int ((Int32.toUInt32 ((XT.ushr p2 (16 : Int32)) &&& (255 : Int32))).toUInt16.toUInt32.toInt32)), (.int (2 : Int32)), (.ref a37), (.ref a37), (.ref a36), (.ref a36)])
      obtain ⟨c40, B40, q40, S40, M40, H40, G40⟩ := id V39
      obtain ⟨T40, h40, X40, e40, W40, st40⟩ := stC X39 hx hZ e39 B40 (j := (2 : Int32)) (inb_of S40 ⟨(by decide : ¬ ((2 : Int32) < (0 : Int32))), (by decide : (2 : Int32) < (3 : Int32))⟩) (g := (mkF m 126 #[.val (.int p0), .val (.int p1), .val (.int p2), .val (.int p3), .val (.ref a1), .val .null, .unset, .unset] [(.int ((Int32.toUInt32 ((XT.ushr p2 (16 : Int32)) &&& (255 : Int32))).toUInt16.toUInt32.toInt32)), (.int (2 : Int32)), (.ref a37), (.ref a37), (.ref a36), (.ref a36)])) rfl rfl (hb hby at_126)
      refine Fin.go st40 ?_
      have V40 : Arv Z h40 a37 k37 .char (3 : Int32) [(.int ((Int32.toUInt32 (p2 &&& (255 : Int32))).toUInt16.toUInt32.toInt32)), (.int ((Int32.toUInt32 ((XT.ushr p2 (8 : Int32)) &&& (255 : Int32))).toUInt16.toUInt32.toInt32)), (.int ((Int32.toUInt32 ((XT.ushr p2 (16 : Int32)) &&& (255 : Int32))).toUInt16.toUInt32.toInt32))] (.int (0 : Int32)) := (by have q : Arv Z h40 a37 k37 .char (3 : Int32) [(.int ((Int32.toUInt32 (p2 &&& (255 : Int32))).toUInt16.toUInt32.toInt32)), (.int ((Int32.toUInt32 ((XT.ushr p2 (8 : Int32)) &&& (255 : Int32))).toUInt16.toUInt32.toInt32)), (.int (nar .char ((Int32.toUInt32 ((XT.ushr p2 (16 : Int32)) &&& (255 : Int32))).toUInt16.toUInt32.toInt32)))] (.int (0 : Int32)) := (Arv.set B40 q40 S40 M40 H40 G40 (fits_nar_char _) W40 2 rfl (Nat.le_of_ble_eq_true rfl)); rwa [nar_c16] at q)
      have N40 := Fr.snoc X40 N39 n37
      have O40 := O39.wr W40 n37
      have hk40 := Nat.le_trans hk39 (Keep.of_wr W40).1
      have RR40 := RR39.trans (CHr.wr W40 (Safe.arv hZ.alike V39 (by decide)) RR39.1)
      have sf40_a1 := (Safe.wr W40 (Safe.arv hZ.alike V39 (by decide)) RR39.1 sf39_a1)
      have V40_a2 := (V39_a2.other W40 (Nat.ne_of_lt (Nat.lt_of_lt_of_eq (V5_a2.ext E36).lt g37.symm)))
      have F40_a1_coder := (F39_a1_coder.other W40 (Or.inl (Nat.ne_of_lt (Nat.lt_of_lt_of_eq (A5.ext E36).lt g37.symm))))
      have F40_a1_value := (F39_a1_value.other W40 (Or.inl (Nat.ne_of_lt (Nat.lt_of_lt_of_eq (A5.ext E36).lt g37.symm))))
      have V40_d5 := (V39_d5.other W40 (Nat.ne_of_lt (Nat.lt_of_lt_of_eq (V5.ext E36).lt g37.symm)))
      have sf40_a36 := (Safe.wr W40 (Safe.arv hZ.alike V39 (by decide)) RR39.1 sf39_a36)
      have F40_a36_coder := (F39_a36_coder.other W40 (Or.inl (Nat.ne_of_lt (Nat.lt_of_lt_of_eq A36.lt g37.symm))))
      have F40_a36_value := (F39_a36_value.other W40 (Or.inl (Nat.ne_of_lt (Nat.lt_of_lt_of_eq A36.lt g37.symm))))
      show Fin _ p e below s _ _ _ T40 (mkF m 127 #[.val (.int p0), .val (.int p1), .val (.int p2), .val (.int p3), .val (.ref a1), .val .null, .unset, .unset] [(.ref a37), (.ref a36), (.ref a36)])
      obtain ⟨v41, T41, L41, X41, q41, st41⟩ := callCt X40 hx hZ (y := (⟨"java/lang/String", "<init>", "([C)V"⟩ : MethodName)) rfl hown (hw _ w_4) (hw _ w_5) (hw _ w_2) (hw _ w_6) (by decide) (W := 1) (rmStr3 l Z a0 hw n0 h40 O40 a36 a37 k37 ((Int32.toUInt32 (p2 &&& (255 : Int32))).toUInt16.toUInt32.toInt32) ((Int32.toUInt32 ((XT.ushr p2 (8 : Int32)) &&& (255 : Int32))).toUInt16.toUInt32.toInt32) ((Int32.toUInt32 ((XT.ushr p2 (16 : Int32)) &&& (255 : Int32))).toUInt16.toUInt32.toInt32) cs S_cs hcs V40 ((((A36.ext E37).wr W38).wr W39).wr W40) F40_a36_coder F40_a36_value (and255 _) (and255 _) (and255 _) n36 (Ne.symm (Nat.ne_of_lt (Nat.lt_of_lt_of_eq A36.lt g37.symm)))) e40 (by decide) (by decide) (by decide) (by decide) (g := (mkF m 127 #[.val (.int p0), .val (.int p1), .val (.int p2), .val (.int p3), .val (.ref a1), .val .null, .unset, .unset] [(.ref a37), (.ref a36), (.ref a36)])) rfl (by rw [hml]; rfl) (a := a36) (argsL := [(.ref a37)]) (rest := [(.ref a36)]) (lenOf pd_oACcV rfl) rfl (by show 2 * 0 + _ ≤ _; exact Nat.le_of_eq rfl) (hb hby at_127)
      obtain ⟨rfl, Nq41, Kq41, A41, C41, d41, kd41, F41, V41, zd41⟩ := q41
      have N41 := Fr.app N40 Nq41
      have O41 := O40.keep Kq41 (allS n36 all0)
      have RR41 := RR40.trans (CHr.keep Kq41 (sfS sf40_a36 sf0) RR40.1)
      have hk41 := Nat.le_trans hk40 Kq41.1
      refine Fin.go st41 ?_
      have A41_a1 := ((((((A5.ext E36).ext E37).wr W38).wr W39).wr W40).keep Kq41)
      have V41_a2 := (V40_a2.keep Kq41 (ninS (Nat.ne_of_lt (Nat.lt_of_lt_of_eq V5_a2.lt g36.symm)) nin0))
      have F41_a1_coder := (F40_a1_coder.keep Kq41 (ninS (Nat.ne_of_lt (Nat.lt_of_lt_of_eq A5.lt g36.symm)) nin0))
      have F41_a1_value := (F40_a1_value.keep Kq41 (ninS (Nat.ne_of_lt (Nat.lt_of_lt_of_eq A5.lt g36.symm)) nin0))
      have V41_d5 := (V40_d5.keep Kq41 (ninS (Nat.ne_of_lt (Nat.lt_of_lt_of_eq V5.lt g36.symm)) nin0))
      have V41_a37 := (V40.keep Kq41 (ninS (Ne.symm (Nat.ne_of_lt (Nat.lt_of_lt_of_eq A36.lt g37.symm))) nin0))
      show Fin _ p e below s _ _ _ T41 (mkF m 130 #[.val (.int p0), .val (.int p1), .val (.int p2), .val (.int p3), .val (.ref a1), .val .null, .unset, .unset] [(.ref a36)])
      have nzd41 : n0 ≤ d41 := Nat.le_trans (by have := O40.1; have := O40.2.1; omega) zd41
      refine Fin.go (fun _ k => XS.astore X41.here hx rfl (hb hby at_130) rfl rfl (l' := #[.val (.int p0), .val (.int p1), .val (.int p2), .val (.int p3), .val (.ref a1), .val .null, .val (.ref a36), .unset]) rfl k) ?_
      show Fin _ p e below s _ _ _ T41 (mkF m 132 #[.val (.int p0), .val (.int p1), .val (.int p2), .val (.int p3), .val (.ref a1), .val .null, .val (.ref a36), .unset] [])
      refine Fin.go (fun _ k => XS.aload X41.here hx rfl (hb hby at_132) rfl rfl k) ?_
      show Fin _ p e below s _ _ _ T41 (mkF m 134 #[.val (.int p0), .val (.int p1), .val (.int p2), .val (.int p3), .val (.ref a1), .val .null, .val (.ref a36), .unset] [(.ref a1)])
      refine Fin.go (fun _ k => XS.aload X41.here hx rfl (hb hby at_134) rfl rfl k) ?_
      show Fin _ p e below s _ _ _ T41 (mkF m 136 #[.val (.int p0), .val (.int p1), .val (.int p2), .val (.int p3), .val (.ref a1), .val .null, .val (.ref a36), .unset] [.null, (.ref a1)])
      refine Fin.go (fun _ k => XS.aload X41.here hx rfl (hb hby at_136) rfl rfl k) ?_
      show Fin _ p e below s _ _ _ T41 (mkF m 138 #[.val (.int p0), .val (.int p1), .val (.int p2), .val (.int p3), .val (.ref a1), .val .null, .val (.ref a36), .unset] [(.ref a36), .null, (.ref a1)])
      obtain ⟨v42, T42, L42, X42, q42, st42⟩ := callSt X41 hx hZ (y := (⟨"com/example/termspan/termspan/options/Option", "optional", "(Ljava/lang/String;Ljava/lang/String;Ljava/lang/String;)Lcom/example/termspan/termspan/options/Option;"⟩ : MethodName)) hown (hw _ w_30) (hw _ w_31) (hw _ w_32) (hw _ w_33) (by decide) (W := 0) (rmOpt l Z a0 hw n0 T41.heap O41 (.ref a1) .null (.ref a36) rfl rfl rfl) (rfl : T41.heap = T41.heap) (by decide) (by decide) (by decide) (by decide) (g := (mkF m 138 #[.val (.int p0), .val (.int p1), .val (.int p2), .val (.int p3), .val (.ref a1), .val .null, .val (.ref a36), .unset] [(.ref a36), .null, (.ref a1)])) rfl (by rw [hml]; rfl) (argsL := [(.ref a1), .null, (.ref a36)]) (rest := []) (lenOf pd_oLjava_lang_String_Ljava_lang_String_Ljava_lang_String_cLcom_example_termspan_termspan_options_Option_ rfl) rfl (by show 2 * 0 + _ ≤ _; exact Nat.le_of_eq rfl) (hb hby at_138)
      obtain ⟨o42, rfl, Nq42, Kq42, A42, G42_name, G42_value, G42_fallback, G42_required, G42_repeatable, G42_description, G42_range⟩ := q42
      have N42 := Fr.app N41 Nq42
      have O42 := O41.keep Kq42 all0
      have RR42 := RR41.trans (CHr.keep Kq42 sf0 RR41.1)
      have hk42 := Nat.le_trans hk41 Kq42.1
      refine Fin.go st42 ?_
      have sf42_a1 := (Safe.keep Kq42 sf0 RR41.1 (Safe.keep Kq41 (sfS sf40_a36 sf0) RR40.1 sf40_a1))
      have sf42_a36 := (Safe.keep Kq42 sf0 RR41.1 (Safe.keep Kq41 (sfS sf40_a36 sf0) RR40.1 sf40_a36))
      show Fin _ p e below s _ _ _ T42 (mkF m 141 #[.val (.int p0), .val (.int p1), .val (.int p2), .val (.int p3), .val (.ref a1), .val .null, .val (.ref a36), .unset] [(.ref o42)])
      refine Fin.go (fun _ k => XS.astore X42.here hx rfl (hb hby at_141) rfl rfl (l' := #[.val (.int p0), .val (.int p1), .val (.int p2), .val (.int p3), .val (.ref a1), .val .null, .val (.ref a36), .val (.ref o42)]) rfl k) ?_
      show Fin _ p e below s _ _ _ T42 (mkF m 143 #[.val (.int p0), .val (.int p1), .val (.int p2), .val (.int p3), .val (.ref a1), .val .null, .val (.ref a36), .val (.ref o42)] [])
      refine Fin.go (fun _ k => XS.aload X42.here hx rfl (hb hby at_143) rfl rfl k) ?_
      show Fin _ p e below s _ _ _ T42 (mkF m 145 #[.val (.int p0), .val (.int p1), .val (.int p2), .val (.int p3), .val (.ref a1), .val .null, .val (.ref a36), .val (.ref o42)] [(.ref o42)])
      obtain ⟨v43, T43, L43, X43, q43, st43⟩ := callVt X42 hx hZ (y := (⟨"com/example/termspan/termspan/options/Option", "name", "()Ljava/lang/String;"⟩ : MethodName)) hown (hw _ w_59) (hw _ w_60) (hw _ w_62) (hw _ w_61) (hw _ w_32) (hw _ w_63) (by decide) (W := 0) (rmG_name l Z a0 hw n0 T42.heap O42 o42 (.ref a1) rfl G42_name) (rfl : T42.heap = T42.heap) A42 (by decide) (by decide) (by decide) (by decide) (g := (mkF m 145 #[.val (.int p0), .val (.int p1), .val (.int p2), .val (.int p3), .val (.ref a1), .val .null, .val (.ref a36), .val (.ref o42)] [(.ref o42)])) rfl (by rw [hml]; rfl) (argsL := []) (rest := []) (lenOf pd_ocLjava_lang_String_ rfl) rfl (by show 2 * 0 + _ ≤ _; exact Nat.le_of_eq rfl) (hb hby at_145)
      obtain ⟨rfl, e43, rfl⟩ := q43
      have N43 := Fr.app N42 (Fr.nil n0)
      refine Fin.go st43 ?_
      show Fin _ p e below s _ _ _ T43 (mkF m 148 #[.val (.int p0), .val (.int p1), .val (.int p2), .val (.int p3), .val (.ref a1), .val .null, .val (.ref a36), .val (.ref o42)] [(.ref a1)])
      refine Fin.go (fun _ k => XS.aload X43.here hx rfl (hb hby at_148) rfl rfl k) ?_
      show Fin _ p e below s _ _ _ T43 (mkF m 150 #[.val (.int p0), .val (.int p1), .val (.int p2), .val (.int p3), .val (.ref a1), .val .null, .val (.ref a36), .val (.ref o42)] [(.ref a1), (.ref a1)])
      refine Fin.go (fun _ k => XT.acmpNo X43.here hx rfl (hb hby at_150) rfl rfl rfl (XT.aa_ne_f rfl) k) ?_
      show Fin _ p e below s _ _ _ T43 (mkF m 153 #[.val (.int p0), .val (.int p1), .val (.int p2), .val (.int p3), .val (.ref a1), .val .null, .val (.ref a36), .val (.ref o42)] [])
      refine Fin.go (fun _ k => XS.aload X43.here hx rfl (hb hby at_153) rfl rfl k) ?_
      show Fin _ p e below s _ _ _ T43 (mkF m 155 #[.val (.int p0), .val (.int p1), .val (.int p2), .val (.int p3), .val (.ref a1), .val .null, .val (.ref a36), .val (.ref o42)] [(.ref o42)])
      obtain ⟨v44, T44, L44, X44, q44, st44⟩ := callVt X43 hx hZ (y := (⟨"com/example/termspan/termspan/options/Option", "value", "()Ljava/lang/String;"⟩ : MethodName)) hown (hw _ w_64) (hw _ w_65) (hw _ w_67) (hw _ w_66) (hw _ w_32) (hw _ w_68) (by decide) (W := 0) (rmG_value l Z a0 hw n0 T42.heap O42 o42 .null rfl G42_value) e43 A42 (by decide) (by decide) (by decide) (by decide) (g := (mkF m 155 #[.val (.int p0), .val (.int p1), .val (.int p2), .val (.int p3), .val (.ref a1), .val .null, .val (.ref a36), .val (.ref o42)] [(.ref o42)])) rfl (by rw [hml]; rfl) (argsL := []) (rest := []) (lenOf pd_ocLjava_lang_String_ rfl) rfl (by show 2 * 0 + _ ≤ _; exact Nat.le_of_eq rfl) (hb hby at_155)
      obtain ⟨rfl, e44, rfl⟩ := q44
      have N44 := Fr.app N43 (Fr.nil n0)
      refine Fin.go st44 ?_
      show Fin _ p e below s _ _ _ T44 (mkF m 158 #[.val (.int p0), .val (.int p1), .val (.int p2), .val (.int p3), .val (.ref a1), .val .null, .val (.ref a36), .val (.ref o42)] [.null])
      refine Fin.go (fun _ k => XS.aload X44.here hx rfl (hb hby at_158) rfl rfl k) ?_
      show Fin _ p e below s _ _ _ T44 (mkF m 160 #[.val (.int p0), .val (.int p1), .val (.int p2), .val (.int p3), .val (.ref a1), .val .null, .val (.ref a36), .val (.ref o42)] [.null, .null])
      refine Fin.go (fun _ k => XT.acmpNo X44.here hx rfl (hb hby at_160) rfl rfl rfl (XT.aa_ne_f rfl) k) ?_
      show Fin _ p e below s _ _ _ T44 (mkF m 163 #[.val (.int p0), .val (.int p1), .val (.int p2), .val (.int p3), .val (.ref a1), .val .null, .val (.ref a36), .val (.ref o42)] [])
      refine Fin.go (fun _ k => XS.aload X44.here hx rfl (hb hby at_163) rfl rfl k) ?_
      show Fin _ p e below s _ _ _ T44 (mkF m 165 #[.val (.int p0), .val (.int p1), .val (.int p2), .val (.int p3), .val (.ref a1), .val .null, .val (.ref a36), .val (.ref o42)] [(.ref o42)])
      obtain ⟨v45, T45, L45, X45, q45, st45⟩ := callVt X44 hx hZ (y := (⟨"com/example/termspan/termspan/options/Option", "fallback", "()Ljava/lang/String;"⟩ : MethodName)) hown (hw _ w_69) (hw _ w_70) (hw _ w_72) (hw _ w_71) (hw _ w_32) (hw _ w_73) (by decide) (W := 0) (rmG_fallback l Z a0 hw n0 T42.heap O42 o42 .null rfl G42_fallback) e44 A42 (by decide) (by decide) (by decide) (by decide) (g := (mkF m 165 #[.val (.int p0), .val (.int p1), .val (.int p2), .val (.int p3), .val (.ref a1), .val .null, .val (.ref a36), .val (.ref o42)] [(.ref o42)])) rfl (by rw [hml]; rfl) (argsL := []) (rest := []) (lenOf pd_ocLjava_lang_String_ rfl) rfl (by show 2 * 0 + _ ≤ _; exact Nat.le_of_eq rfl) (hb hby at_165)
      obtain ⟨rfl, e45, rfl⟩ := q45
      have N45 := Fr.app N44 (Fr.nil n0)
      refine Fin.go st45 ?_
      show Fin _ p e below s _ _ _ T45 (mkF m 168 #[.val (.int p0), .val (.int p1), .val (.int p2), .val (.int p3), .val (.ref a1), .val .null, .val (.ref a36), .val (.ref o42)] [.null])
      refine Fin.go (fun _ k => XT.ifnonnullNo X45.here hx rfl (hb hby at_168) rfl k) ?_
      show Fin _ p e below s _ _ _ T45 (mkF m 171 #[.val (.int p0), .val (.int p1), .val (.int p2), .val (.int p3), .val (.ref a1), .val .null, .val (.ref a36), .val (.ref o42)] [])
      refine Fin.go (fun _ k => XS.aload X45.here hx rfl (hb hby at_171) rfl rfl k) ?_
      show Fin _ p e below s _ _ _ T45 (mkF m 173 #[.val (.int p0), .val (.int p1), .val (.int p2), .val (.int p3), .val (.ref a1), .val .null, .val (.ref a36), .val (.ref o42)] [(.ref o42)])
      obtain ⟨v46, T46, L46, X46, q46, st46⟩ := callVt X45 hx hZ (y := (⟨"com/example/termspan/termspan/options/Option", "required", "()Z"⟩ : MethodName)) hown (hw _ w_74) (hw _ w_75) (hw _ w_77) (hw _ w_76) (hw _ w_32) (hw _ w_78) (by decide) (W := 0) (rmG_required l Z a0 hw n0 T42.heap O42 o42 G42_required) e45 A42 (by decide) (by decide) (by decide) (by decide) (g := (mkF m 173 #[.val (.int p0), .val (.int p1), .val (.int p2), .val (.int p3), .val (.ref a1), .val .null, .val (.ref a36), .val (.ref o42)] [(.ref o42)])) rfl (by rw [hml]; rfl) (argsL := []) (rest := []) (lenOf pd_ocZ rfl) rfl (by show 2 * 0 + _ ≤ _; exact Nat.le_of_eq rfl) (hb hby at_173)
      obtain ⟨rfl, e46, rfl⟩ := q46
      have N46 := Fr.app N45 (Fr.nil n0)
      refine Fin.go st46 ?_
      show Fin _ p e below s _ _ _ T46 (mkF m 176 #[.val (.int p0), .val (.int p1), .val (.int p2), .val (.int p3), .val (.ref a1), .val .null, .val (.ref a36), .val (.ref o42)] [(.int (0 : Int32))])
      refine Fin.go (fun _ k => XS.ifNo X46.here hx rfl (hb hby at_176) rfl (XT.i0_ne_f (by decide)) k) ?_
      show Fin _ p e below s _ _ _ T46 (mkF m 179 #[.val (.int p0), .val (.int p1), .val (.int p2), .val (.int p3), .val (.ref a1), .val .null, .val (.ref a36), .val (.ref o42)] [])
      refine Fin.go (fun _ k => XS.aload X46.here hx rfl (hb hby at_179) rfl rfl k) ?_
      show Fin _ p e below s _ _ _ T46 (mkF m 181 #[.val (.int p0), .val (.int p1), .val (.int p2), .val (.int p3), .val (.ref a1), .val .null, .val (.ref a36), .val (.ref o42)] [(.ref o42)])
      obtain ⟨v47, T47, L47, X47, q47, st47⟩ := callVt X46 hx hZ (y := (⟨"com/example/termspan/termspan/options/Option", "repeatable", "()Z"⟩ : MethodName)) hown (hw _ w_79) (hw _ w_80) (hw _ w_82) (hw _ w_81) (hw _ w_32) (hw _ w_83) (by decide) (W := 0) (rmG_repeatable l Z a0 hw n0 T42.heap O42 o42 G42_repeatable) e46 A42 (by decide) (by decide) (by decide) (by decide) (g := (mkF m 181 #[.val (.int p0), .val (.int p1), .val (.int p2), .val (.int p3), .val (.ref a1), .val .null, .val (.ref a36), .val (.ref o42)] [(.ref o42)])) rfl (by rw [hml]; rfl) (argsL := []) (rest := []) (lenOf pd_ocZ rfl) rfl (by show 2 * 0 + _ ≤ _; exact Nat.le_of_eq rfl) (hb hby at_181)
      obtain ⟨rfl, e47, rfl⟩ := q47
      have N47 := Fr.app N46 (Fr.nil n0)
      refine Fin.go st47 ?_
      show Fin _ p e below s _ _ _ T47 (mkF m 184 #[.val (.int p0), .val (.int p1), .val (.int p2), .val (.int p3), .val (.ref a1), .val .null, .val (.ref a36), .val (.ref o42)] [(.int (0 : Int32))])
      refine Fin.go (fun _ k => XS.ifNo X47.here hx rfl (hb hby at_184) rfl (XT.i0_ne_f (by decide)) k) ?_
      show Fin _ p e below s _ _ _ T47 (mkF m 187 #[.val (.int p0), .val (.int p1), .val (.int p2), .val (.int p3), .val (.ref a1), .val .null, .val (.ref a36), .val (.ref o42)] [])
      refine Fin.go (fun _ k => XS.aload X47.here hx rfl (hb hby at_187) rfl rfl k) ?_
      show Fin _ p e below s _ _ _ T47 (mkF m 189 #[.val (.int p0), .val (.int p1), .val (.int p2), .val (.int p3), .val (.ref a1), .val .null, .val (.ref a36), .val (.ref o42)] [(.ref o42)])
      obtain ⟨v48, T48, L48, X48, q48, st48⟩ := callVt X47 hx hZ (y := (⟨"com/example/termspan/termspan/options/Option", "description", "()Ljava/lang/String;"⟩ : MethodName)) hown (hw _ w_84) (hw _ w_85) (hw _ w_87) (hw _ w_86) (hw _ w_32) (hw _ w_88) (by decide) (W := 0) (rmG_description l Z a0 hw n0 T42.heap O42 o42 (.ref a36) rfl G42_description) e47 A42 (by decide) (by decide) (by decide) (by decide) (g := (mkF m 189 #[.val (.int p0), .val (.int p1), .val (.int p2), .val (.int p3), .val (.ref a1), .val .null, .val (.ref a36), .val (.ref o42)] [(.ref o42)])) rfl (by rw [hml]; rfl) (argsL := []) (rest := []) (lenOf pd_ocLjava_lang_String_ rfl) rfl (by show 2 * 0 + _ ≤ _; exact Nat.le_of_eq rfl) (hb hby at_189)
      obtain ⟨rfl, e48, rfl⟩ := q48
      have N48 := Fr.app N47 (Fr.nil n0)
      refine Fin.go st48 ?_
      show Fin _ p e below s _ _ _ T48 (mkF m 192 #[.val (.int p0), .val (.int p1), .val (.int p2), .val (.int p3), .val (.ref a1), .val .null, .val (.ref a36), .val (.ref o42)] [(.ref a36)])
      refine Fin.go (fun _ k => XS.aload X48.here hx rfl (hb hby at_192) rfl rfl k) ?_
      show Fin _ p e below s _ _ _ T48 (mkF m 194 #[.val (.int p0), .val (.int p1), .val (.int p2), .val (.int p3), .val (.ref a1), .val .null, .val (.ref a36), .val (.ref o42)] [(.ref a36), (.ref a36)])
      refine Fin.go (fun _ k => XT.acmpNo X48.here hx rfl (hb hby at_194) rfl rfl rfl (XT.aa_ne_f rfl) k) ?_
      show Fin _ p e below s _ _ _ T48 (mkF m 197 #[.val (.int p0), .val (.int p1), .val (.int p2), .val (.int p3), .val (.ref a1), .val .null, .val (.ref a36), .val (.ref o42)] [])
      refine Fin.go (fun _ k => XS.aload X48.here hx rfl (hb hby at_197) rfl rfl k) ?_
      show Fin _ p e below s _ _ _ T48 (mkF m 199 #[.val (.int p0), .val (.int p1), .val (.int p2), .val (.int p3), .val (.ref a1), .val .null, .val (.ref a36), .val (.ref o42)] [(.ref o42)])
      obtain ⟨v49, T49, L49, X49, q49, st49⟩ := callVt X48 hx hZ (y := (⟨"com/example/termspan/termspan/options/Option", "range", "()Lcom/example/termspan/termspan/options/Option$Range;"⟩ : MethodName)) hown (hw _ w_89) (hw _ w_90) (hw _ w_92) (hw _ w_91) (hw _ w_32) (hw _ w_93) (by decide) (W := 0) (rmG_range l Z a0 hw n0 T42.heap O42 o42 .null rfl G42_range) e48 A42 (by decide) (by decide) (by decide) (by decide) (g := (mkF m 199 #[.val (.int p0), .val (.int p1), .val (.int p2), .val (.int p3), .val (.ref a1), .val .null, .val (.ref a36), .val (.ref o42)] [(.ref o42)])) rfl (by rw [hml]; rfl) (argsL := []) (rest := []) (lenOf pd_ocLcom_example_termspan_termspan_options_OptionxRange_ rfl) rfl (by show 2 * 0 + _ ≤ _; exact Nat.le_of_eq rfl) (hb hby at_199)
      obtain ⟨rfl, e49, rfl⟩ := q49
      have N49 := Fr.app N48 (Fr.nil n0)
      refine Fin.go st49 ?_
      show Fin _ p e below s _ _ _ T49 (mkF m 202 #[.val (.int p0), .val (.int p1), .val (.int p2), .val (.int p3), .val (.ref a1), .val .null, .val (.ref a36), .val (.ref o42)] [.null])
      refine Fin.go (fun _ k => XT.ifnonnullNo X49.here hx rfl (hb hby at_202) rfl k) ?_
      show Fin _ p e below s _ _ _ T49 (mkF m 205 #[.val (.int p0), .val (.int p1), .val (.int p2), .val (.int p3), .val (.ref a1), .val .null, .val (.ref a36), .val (.ref o42)] [])
      refine Fin.go (fun _ k => XS.aload X49.here hx rfl (hb hby at_205) rfl rfl k) ?_
      show Fin _ p e below s _ _ _ T49 (mkF m 207 #[.val (.int p0), .val (.int p1), .val (.int p2), .val (.int p3), .val (.ref a1), .val .null, .val (.ref a36), .val (.ref o42)] [(.ref o42)])
      obtain ⟨v50, T50, L50, X50, q50, st50⟩ := callVt X49 hx hZ (y := (⟨"com/example/termspan/termspan/options/Option", "isFlag", "()Z"⟩ : MethodName)) hown (hw _ w_94) (hw _ w_95) (hw _ w_97) (hw _ w_96) (hw _ w_32) (hw _ w_98) (by decide) (W := 0) (rmFlN l Z a0 hw n0 T42.heap O42 o42 0 G42_value) e49 A42 (by decide) (by decide) (by decide) (by decide) (g := (mkF m 207 #[.val (.int p0), .val (.int p1), .val (.int p2), .val (.int p3), .val (.ref a1), .val .null, .val (.ref a36), .val (.ref o42)] [(.ref o42)])) rfl (by rw [hml]; rfl) (argsL := []) (rest := []) (lenOf pd_ocZ rfl) rfl (by show 2 * 0 + _ ≤ _; exact Nat.le_of_eq rfl) (hb hby at_207)
      obtain ⟨rfl, e50, rfl⟩ := q50
      have N50 := Fr.app N49 (Fr.nil n0)
      refine Fin.go st50 ?_
      show Fin _ p e below s _ _ _ T50 (mkF m 210 #[.val (.int p0), .val (.int p1), .val (.int p2), .val (.int p3), .val (.ref a1), .val .null, .val (.ref a36), .val (.ref o42)] [(.int (1 : Int32))])
      refine Fin.go (fun _ k => XS.aload X50.here hx rfl (hb hby at_210) rfl rfl k) ?_
      show Fin _ p e below s _ _ _ T50 (mkF m 212 #[.val (.int p0), .val (.int p1), .val (.int p2), .val (.int p3), .val (.ref a1), .val .null, .val (.ref a36), .val (.ref o42)] [.null, (.int (1 : Int32))])
      refine Fin.go (fun _ k => XT.ifnonnullNo X50.here hx rfl (hb hby at_212) rfl k) ?_
      show Fin _ p e below s _ _ _ T50 (mkF m 215 #[.val (.int p0), .val (.int p1), .val (.int p2), .val (.int p3), .val (.ref a1), .val .null, .val (.ref a36), .val (.ref o42)] [(.int (1 : Int32))])
      refine Fin.go (fun _ k => XS.iconst X50.here hx rfl (hb hby at_215) k) ?_
      show Fin _ p e below s _ _ _ T50 (mkF m 216 #[.val (.int p0), .val (.int p1), .val (.int p2), .val (.int p3), .val (.ref a1), .val .null, .val (.ref a36), .val (.ref o42)] [(.int (1 : Int32)), (.int (1 : Int32))])
      refine Fin.go (fun _ k => XS.goto X50.here hx rfl (pc0 := 216) (pc' := 220) rfl (hb hby at_216) (by decide) (by decide) k) ?_
      show Fin _ p e below s _ _ _ T50 (mkF m 220 #[.val (.int p0), .val (.int p1), .val (.int p2), .val (.int p3), .val (.ref a1), .val .null, .val (.ref a36), .val (.ref o42)] [(.int (1 : Int32)), (.int (1 : Int32))])
      refine Fin.go (fun _ k => XS.icmpNo X50.here hx rfl (hb hby at_220) rfl (XT.ii_ne_f (by decide)) k) ?_
      show Fin _ p e below s _ _ _ T50 (mkF m 223 #[.val (.int p0), .val (.int p1), .val (.int p2), .val (.int p3), .val (.ref a1), .val .null, .val (.ref a36), .val (.ref o42)] [])
      refine Fin.go (fun _ k => XS.iconst X50.here hx rfl (hb hby at_223) k) ?_
      show Fin _ p e below s _ _ _ T50 (mkF m 224 #[.val (.int p0), .val (.int p1), .val (.int p2), .val (.int p3), .val (.ref a1), .val .null, .val (.ref a36), .val (.ref o42)] [(.int (1 : Int32))])
      refine Fin.go (fun _ k => XS.goto X50.here hx rfl (pc0 := 224) (pc' := 228) rfl (hb hby at_224) (by decide) (by decide) k) ?_
      show Fin _ p e below s _ _ _ T50 (mkF m 228 #[.val (.int p0), .val (.int p1), .val (.int p2), .val (.int p3), .val (.ref a1), .val .null, .val (.ref a36), .val (.ref o42)] [(.int (1 : Int32))])
      exact Fin.leaveH X50 hS hk42 hZ hEL e50 RR42 hlk (v := some (.int (nar .boolean (1 : Int32)))) (fun h => by rw [hret] at h; cases h) (by decide) (by decide) ⟨rfl, N50⟩ (fun fs hr => retN X50 hx (t := .boolean) hret (by simp) (hb hby at_228) hr)
    · refine Fin.go (fun _ k => XS.ifNo X5.here hx rfl (hb hby at_79) rfl (XT.i0_eq_f c79) k) ?_
      show Fin _ p e below s _ _ _ T5 (mkF m 82 #[.val (.int p0), .val (.int p1), .val (.int p2), .val (.int p3), .val (.ref a1), .val .null, .unset, .unset] [])
      obtain ⟨a51, T51, h51, k51, X51, e51, E51, hS51, hj51, hZ51, hown51, RC51, lt51, st51⟩ := ldcOH X5 hx hZ hown (hw _ w_99) (strW hw) (rfl : T5.heap = T5.heap) hS hk5 hEL RR5.1 (g := (mkF m 82 #[.val (.int p0), .val (.int p1), .val (.int p2), .val (.int p3), .val (.ref a1), .val .null, .unset, .unset] [])) rfl (hb hby at_82) (n := 0) (by decide) (by decide) (by decide) (by decide)
      refine Fin.go st51 ?_
      have O51 := O5.ext E51
      have RR51 := RR5.trans RC51
      show Fin _ p e below s _ _ _ T51 (mkF m 84 #[.val (.int p0), .val (.int p1), .val (.int p2), .val (.int p3), .val (.ref a1), .val .null, .unset, .unset] [(.ref a51)])
      refine Fin.go (fun _ k => XS.goto X51.here hx rfl (pc0 := 84) (pc' := 130) rfl (hb hby at_84) (by decide) (by decide) k) ?_
      show Fin _ p e below s _ _ _ T51 (mkF m 130 #[.val (.int p0), .val (.int p1), .val (.int p2), .val (.int p3), .val (.ref a1), .val .null, .unset, .unset] [(.ref a51)])
      refine Fin.go (fun _ k => XS.astore X51.here hx rfl (hb hby at_130) rfl rfl (l' := #[.val (.int p0), .val (.int p1), .val (.int p2), .val (.int p3), .val (.ref a1), .val .null, .val (.ref a51), .unset]) rfl k) ?_
      show Fin _ p e below s _ _ _ T51 (mkF m 132 #[.val (.int p0), .val (.int p1), .val (.int p2), .val (.int p3), .val (.ref a1), .val .null, .val (.ref a51), .unset] [])
      refine Fin.go (fun _ k => XS.aload X51.here hx rfl (hb hby at_132) rfl rfl k) ?_
      show Fin _ p e below s _ _ _ T51 (mkF m 134 #[.val (.int p0), .val (.int p1), .val (.int p2), .val (.int p3), .val (.ref a1), .val .null, .val (.ref a51), .unset] [(.ref a1)])
      refine Fin.go (fun _ k => XS.aload X51.here hx rfl (hb hby at_134) rfl rfl k) ?_
      show Fin _ p e below s _ _ _ T51 (mkF m 136 #[.val (.int p0), .val (.int p1), .val (.int p2), .val (.int p3), .val (.ref a1), .val .null, .val (.ref a51), .unset] [.null, (.ref a1)])
      refine Fin.go (fun _ k => XS.aload X51.here hx rfl (hb hby at_136) rfl rfl k) ?_
      show Fin _ p e below s _ _ _ T51 (mkF m 138 #[.val (.int p0), .val (.int p1), .val (.int p2), .val (.int p3), .val (.ref a1), .val .null, .val (.ref a51), .unset] [(.ref a51), .null, (.ref a1)])
      obtain ⟨v52, T52, L52, X52, q52, st52⟩ := callSt X51 hx hZ51 (y := (⟨"com/example/termspan/termspan/options/Option", "optional", "(Ljava/lang/String;Ljava/lang/String;Ljava/lang/String;)Lcom/example/termspan/termspan/options/Option;"⟩ : MethodName)) hown51 (hw _ w_30) (hw _ w_31) (hw _ w_32) (hw _ w_33) (by decide) (W := 0) (rmOpt l Z a0 hw n0 h51 O51 (.ref a1) .null (.ref a51) rfl rfl rfl) e51 (by decide) (by decide) (by decide) (by decide) (g := (mkF m 138 #[.val (.int p0), .val (.int p1), .val (.int p2), .val (.int p3), .val (.ref a1), .val .null, .val (.ref a51), .unset] [(.ref a51), .null, (.ref a1)])) rfl (by rw [hml]; rfl) (argsL := [(.ref a1), .null, (.ref a51)]) (rest := []) (lenOf pd_oLjava_lang_String_Ljava_lang_String_Ljava_lang_String_cLcom_example_termspan_termspan_options_Option_ rfl) rfl (by show 2 * 0 + _ ≤ _; exact Nat.le_of_eq rfl) (hb hby at_138)
      obtain ⟨o52, rfl, Nq52, Kq52, A52, G52_name, G52_value, G52_fallback, G52_required, G52_repeatable, G52_description, G52_range⟩ := q52
      have N52 := Fr.app N5 Nq52
      have O52 := O51.keep Kq52 all0
      have RR52 := RR51.trans (CHr.keep Kq52 sf0 RR51.1)
      have hk52 := Nat.le_trans hj51 Kq52.1
      refine Fin.go st52 ?_
      show Fin _ p e below s _ _ _ T52 (mkF m 141 #[.val (.int p0), .val (.int p1), .val (.int p2), .val (.int p3), .val (.ref a1), .val .null, .val (.ref a51), .unset] [(.ref o52)])
      refine Fin.go (fun _ k => XS.astore X52.here hx rfl (hb hby at_141) rfl rfl (l' := #[.val (.int p0), .val (.int p1), .val (.int p2), .val (.int p3), .val (.ref a1), .val .null, .val (.ref a51), .val (.ref o52)]) rfl k) ?_
      show Fin _ p e below s _ _ _ T52 (mkF m 143 #[.val (.int p0), .val (.int p1), .val (.int p2), .val (.int p3), .val (.ref a1), .val .null, .val (.ref a51), .val (.ref o52)] [])
      refine Fin.go (fun _ k => XS.aload X52.here hx rfl (hb hby at_143) rfl rfl k) ?_
      show Fin _ p e below s _ _ _ T52 (mkF m 145 #[.val (.int p0), .val (.int p1), .val (.int p2), .val (.int p3), .val (.ref a1), .val .null, .val (.ref a51), .val (.ref o52)] [(.ref o52)])
      obtain ⟨v53, T53, L53, X53, q53, st53⟩ := callVt X52 hx hZ51 (y := (⟨"com/example/termspan/termspan/options/Option", "name", "()Ljava/lang/String;"⟩ : MethodName)) hown51 (hw _ w_59) (hw _ w_60) (hw _ w_62) (hw _ w_61) (hw _ w_32) (hw _ w_63) (by decide) (W := 0) (rmG_name l Z a0 hw n0 T52.heap O52 o52 (.ref a1) rfl G52_name) (rfl : T52.heap = T52.heap) A52 (by decide) (by decide) (by decide) (by decide) (g := (mkF m 145 #[.val (.int p0), .val (.int p1), .val (.int p2), .val (.int p3), .val (.ref a1), .val .null, .val (.ref a51), .val (.ref o52)] [(.ref o52)])) rfl (by rw [hml]; rfl) (argsL := []) (rest := []) (lenOf pd_ocLjava_lang_String_ rfl) rfl (by show 2 * 0 + _ ≤ _; exact Nat.le_of_eq rfl) (hb hby at_145)
      obtain ⟨rfl, e53, rfl⟩ := q53
      have N53 := Fr.app N52 (Fr.nil n0)
      refine Fin.go st53 ?_
      show Fin _ p e below s _ _ _ T53 (mkF m 148 #[.val (.int p0), .val (.int p1), .val (.int p2), .val (.int p3), .val (.ref a1), .val .null, .val (.ref a51), .val (.ref o52)] [(.ref a1)])
      refine Fin.go (fun _ k => XS.aload X53.here hx rfl (hb hby at_148) rfl rfl k) ?_
      show Fin _ p e below s _ _ _ T53 (mkF m 150 #[.val (.int p0), .val (.int p1), .val (.int p2), .val (.int p3), .val (.ref a1), .val .null, .val (.ref a51), .val (.ref o52)] [(.ref a1), (.ref a1)])
      refine Fin.go (fun _ k => XT.acmpNo X53.here hx rfl (hb hby at_150) rfl rfl rfl (XT.aa_ne_f rfl) k) ?_
      show Fin _ p e below s _ _ _ T53 (mkF m 153 #[.val (.int p0), .val (.int p1), .val (.int p2), .val (.int p3), .val (.ref a1), .val .null, .val (.ref a51), .val (.ref o52)] [])
      refine Fin.go (fun _ k => XS.aload X53.here hx rfl (hb hby at_153) rfl rfl k) ?_
      show Fin _ p e below s _ _ _ T53 (mkF m 155 #[.val (.int p0), .val (.int p1), .val (.int p2), .val (.int p3), .val (.ref a1), .val .null, .val (.ref a51), .val (.ref o52)] [(.ref o52)])
      obtain ⟨v54, T54, L54, X54, q54, st54⟩ := callVt X53 hx hZ51 (y := (⟨"com/example/termspan/termspan/options/Option", "value", "()Ljava/lang/String;"⟩ : MethodName)) hown51 (hw _ w_64) (hw _ w_65) (hw _ w_67) (hw _ w_66) (hw _ w_32) (hw _ w_68) (by decide) (W := 0) (rmG_value l Z a0 hw n0 T52.heap O52 o52 .null rfl G52_value) e53 A52 (by decide) (by decide) (by decide) (by decide) (g := (mkF m 155 #[.val (.int p0), .val (.int p1), .val (.int p2), .val (.int p3), .val (.ref a1), .val .null, .val (.ref a51), .val (.ref o52)] [(.ref o52)])) rfl (by rw [hml]; rfl) (argsL := []) (rest := []) (lenOf pd_ocLjava_lang_String_ rfl) rfl (by show 2 * 0 + _ ≤ _; exact Nat.le_of_eq rfl) (hb hby at_155)
      obtain ⟨rfl, e54, rfl⟩ := q54
      have N54 := Fr.app N53 (Fr.nil n0)
      refine Fin.go st54 ?_
      show Fin _ p e below s _ _ _ T54 (mkF m 158 #[.val (.int p0), .val (.int p1), .val (.int p2), .val (.int p3), .val (.ref a1), .val .null, .val (.ref a51), .val (.ref o52)] [.null])
      refine Fin.go (fun _ k => XS.aload X54.here hx rfl (hb hby at_158) rfl rfl k) ?_
      show Fin _ p e below s _ _ _ T54 (mkF m 160 #[.val (.int p0), .val (.int p1), .val (.int p2), .val (.int p3), .val (.ref a1), .val .null, .val (.ref a51), .val (.ref o52)] [.null, .null])
      refine Fin.go (fun _ k => XT.acmpNo X54.here hx rfl (hb hby at_160) rfl rfl rfl (XT.aa_ne_f rfl) k) ?_
      show Fin _ p e below s _ _ _ T54 (mkF m 163 #[.val (.int p0), .val (.int p1), .val (.int p2), .val (.int p3), .val (.ref a1), .val .null, .val (.ref a51), .val (.ref o52)] [])
      refine Fin.go (fun _ k => XS.aload X54.here hx rfl (hb hby at_163) rfl rfl k) ?_
      show Fin _ p e below s _ _ _ T54 (mkF m 165 #[.val (.int p0), .val (.int p1), .val (.int p2), .val (.int p3), .val (.ref a1), .val .null, .val (.ref a51), .val (.ref o52)] [(.ref o52)])
      obtain ⟨v55, T55, L55, X55, q55, st55⟩ := callVt X54 hx hZ51 (y := (⟨"com/example/termspan/termspan/options/Option", "fallback", "()Ljava/lang/String;"⟩ : MethodName)) hown51 (hw _ w_69) (hw _ w_70) (hw _ w_72) (hw _ w_71) (hw _ w_32) (hw _ w_73) (by decide) (W := 0) (rmG_fallback l Z a0 hw n0 T52.heap O52 o52 .null rfl G52_fallback) e54 A52 (by decide) (by decide) (by decide) (by decide) (g := (mkF m 165 #[.val (.int p0), .val (.int p1), .val (.int p2), .val (.int p3), .val (.ref a1), .val .null, .val (.ref a51), .val (.ref o52)] [(.ref o52)])) rfl (by rw [hml]; rfl) (argsL := []) (rest := []) (lenOf pd_ocLjava_lang_String_ rfl) rfl (by show 2 * 0 + _ ≤ _; exact Nat.le_of_eq rfl) (hb hby at_165)
      obtain ⟨rfl, e55, rfl⟩ := q55
      have N55 := Fr.app N54 (Fr.nil n0)
      refine Fin.go st55 ?_
      show Fin _ p e below s _ _ _ T55 (mkF m 168 #[.val (.int p0), .val (.int p1), .val (.int p2), .val (.int p3), .val (.ref a1), .val .null, .val (.ref a51), .val (.ref o52)] [.null])
      refine Fin.go (fun _ k => XT.ifnonnullNo X55.here hx rfl (hb hby at_168) rfl k) ?_
      show Fin _ p e below s _ _ _ T55 (mkF m 171 #[.val (.int p0), .val (.int p1), .val (.int p2), .val (.int p3), .val (.ref a1), .val .null, .val (.ref a51), .val (.ref o52)] [])
      refine Fin.go (fun _ k => XS.aload X55.here hx rfl (hb hby at_171) rfl rfl k) ?_
      show Fin _ p e below s _ _ _ T55 (mkF m 173 #[.val (.int p0), .val (.int p1), .val (.int p2), .val (.int p3), .val (.ref a1), .val .null, .val (.ref a51), .val (.ref o52)] [(.ref o52)])
      obtain ⟨v56, T56, L56, X56, q56, st56⟩ := callVt X55 hx hZ51 (y := (⟨"com/example/termspan/termspan/options/Option", "required", "()Z"⟩ : MethodName)) hown51 (hw _ w_74) (hw _ w_75) (hw _ w_77) (hw _ w_76) (hw _ w_32) (hw _ w_78) (by decide) (W := 0) (rmG_required l Z a0 hw n0 T52.heap O52 o52 G52_required) e55 A52 (by decide) (by decide) (by decide) (by decide) (g := (mkF m 173 #[.val (.int p0), .val (.int p1), .val (.int p2), .val (.int p3), .val (.ref a1), .val .null, .val (.ref a51), .val (.ref o52)] [(.ref o52)])) rfl (by rw [hml]; rfl) (argsL := []) (rest := []) (lenOf pd_ocZ rfl) rfl (by show 2 * 0 + _ ≤ _; exact Nat.le_of_eq rfl) (hb hby at_173)
      obtain ⟨rfl, e56, rfl⟩ := q56
      have N56 := Fr.app N55 (Fr.nil n0)
      refine Fin.go st56 ?_
      show Fin _ p e below s _ _ _ T56 (mkF m 176 #[.val (.int p0), .val (.int p1), .val (.int p2), .val (.int p3), .val (.ref a1), .val .null, .val (.ref a51), .val (.ref o52)] [(.int (0 : Int32))])
      refine Fin.go (fun _ k => XS.ifNo X56.here hx rfl (hb hby at_176) rfl (XT.i0_ne_f (by decide)) k) ?_
      show Fin _ p e below s _ _ _ T56 (mkF m 179 #[.val (.int p0), .val (.int p1), .val (.int p2), .val (.int p3), .val (.ref a1), .val .null, .val (.ref a51), .val (.ref o52)] [])
      refine Fin.go (fun _ k => XS.aload X56.here hx rfl (hb hby at_179) rfl rfl k) ?_
      show Fin _ p e below s _ _ _ T56 (mkF m 181 #[.val (.int p0), .val (.int p1), .val (.int p2), .val (.int p3), .val (.ref a1), .val .null, .val (.ref a51), .val (.ref o52)] [(.ref o52)])
      obtain ⟨v57, T57, L57, X57, q57, st57⟩ := callVt X56 hx hZ51 (y := (⟨"com/example/termspan/termspan/options/Option", "repeatable", "()Z"⟩ : MethodName)) hown51 (hw _ w_79) (hw _ w_80) (hw _ w_82) (hw _ w_81) (hw _ w_32) (hw _ w_83) (by decide) (W := 0) (rmG_repeatable l Z a0 hw n0 T52.heap O52 o52 G52_repeatable) e56 A52 (by decide) (by decide) (by decide) (by decide) (g := (mkF m 181 #[.val (.int p0), .val (.int p1), .val (.int p2), .val (.int p3), .val (.ref a1), .val .null, .val (.ref a51), .val (.ref o52)] [(.ref o52)])) rfl (by rw [hml]; rfl) (argsL := []) (rest := []) (lenOf pd_ocZ rfl) rfl (by show 2 * 0 + _ ≤ _; exact Nat.le_of_eq rfl) (hb hby at_181)
      obtain ⟨rfl, e57, rfl⟩ := q57
      have N57 := Fr.app N56 (Fr.nil n0)
      refine Fin.go st57 ?_
      show Fin _ p e below s _ _ _ T57 (mkF m 184 #[.val (.int p0), .val (.int p1), .val (.int p2), .val (.int p3), .val (.ref a1), .val .null, .val (.ref a51), .val (.ref o52)] [(.int (0 : Int32))])
      refine Fin.go (fun _ k => XS.ifNo X57.here hx rfl (hb hby at_184) rfl (XT.i0_ne_f (by decide)) k) ?_
      show Fin _ p e below s _ _ _ T57 (mkF m 187 #[.val (.int p0), .val (.int p1), .val (.int p2), .val (.int p3), .val (.ref a1), .val .null, .val (.ref a51), .val (.ref o52)] [])
      refine Fin.go (fun _ k => XS.aload X57.here hx rfl (hb hby at_187) rfl rfl k) ?_
      show Fin _ p e below s _ _ _ T57 (mkF m 189 #[.val (.int p0), .val (.int p1), .val (.int p2), .val (.int p3), .val (.ref a1), .val .null, .val (.ref a51), .val (.ref o52)] [(.ref o52)])
      obtain ⟨v58, T58, L58, X58, q58, st58⟩ := callVt X57 hx hZ51 (y := (⟨"com/example/termspan/termspan/options/Option", "description", "()Ljava/lang/String;"⟩ : MethodName)) hown51 (hw _ w_84) (hw _ w_85) (hw _ w_87) (hw _ w_86) (hw _ w_32) (hw _ w_88) (by decide) (W := 0) (rmG_description l Z a0 hw n0 T52.heap O52 o52 (.ref a51) rfl G52_description) e57 A52 (by decide) (by decide) (by decide) (by decide) (g := (mkF m 189 #[.val (.int p0), .val (.int p1), .val (.int p2), .val (.int p3), .val (.ref a1), .val .null, .val (.ref a51), .val (.ref o52)] [(.ref o52)])) rfl (by rw [hml]; rfl) (argsL := []) (rest := []) (lenOf pd_ocLjava_lang_String_ rfl) rfl (by show 2 * 0 + _ ≤ _; exact Nat.le_of_eq rfl) (hb hby at_189)
      obtain ⟨rfl, e58, rfl⟩ := q58
      have N58 := Fr.app N57 (Fr.nil n0)
      refine Fin.go st58 ?_
      show Fin _ p e below s _ _ _ T58 (mkF m 192 #[.val (.int p0), .val (.int p1), .val (.int p2), .val (.int p3), .val (.ref a1), .val .null, .val (.ref a51), .val (.ref o52)] [(.ref a51)])
      refine Fin.go (fun _ k => XS.aload X58.here hx rfl (hb hby at_192) rfl rfl k) ?_
      show Fin _ p e below s _ _ _ T58 (mkF m 194 #[.val (.int p0), .val (.int p1), .val (.int p2), .val (.int p3), .val (.ref a1), .val .null, .val (.ref a51), .val (.ref o52)] [(.ref a51), (.ref a51)])
      refine Fin.go (fun _ k => XT.acmpNo X58.here hx rfl (hb hby at_194) rfl rfl rfl (XT.aa_ne_f rfl) k) ?_
      show Fin _ p e below s _ _ _ T58 (mkF m 197 #[.val (.int p0), .val (.int p1), .val (.int p2), .val (.int p3), .val (.ref a1), .val .null, .val (.ref a51), .val (.ref o52)] [])
      refine Fin.go (fun _ k => XS.aload X58.here hx rfl (hb hby at_197) rfl rfl k) ?_
      show Fin _ p e below s _ _ _ T58 (mkF m 199 #[.val (.int p0), .val (.int p1), .val (.int p2), .val (.int p3), .val (.ref a1), .val .null, .val (.ref a51), .val (.ref o52)] [(.ref o52)])
      obtain ⟨v59, T59, L59, X59, q59, st59⟩ := callVt X58 hx hZ51 (y := (⟨"com/example/termspan/termspan/options/Option", "range", "()Lcom/example/termspan/termspan/options/Option$Range;"⟩ : MethodName)) hown51 (hw _ w_89) (hw _ w_90) (hw _ w_92) (hw _ w_91) (hw _ w_32) (hw _ w_93) (by decide) (W := 0) (rmG_range l Z a0 hw n0 T52.heap O52 o52 .null rfl G52_range) e58 A52 (by decide) (by decide) (by decide) (by decide) (g := (mkF m 199 #[.val (.int p0), .val (.int p1), .val (.int p2), .val (.int p3), .val (.ref a1), .val .null, .val (.ref a51), .val (.ref o52)] [(.ref o52)])) rfl (by rw [hml]; rfl) (argsL := []) (rest := []) (lenOf pd_ocLcom_example_termspan_termspan_options_OptionxRange_ rfl) rfl (by show 2 * 0 + _ ≤ _; exact Nat.le_of_eq rfl) (hb hby at_199)
      obtain ⟨rfl, e59, rfl⟩ := q59
      have N59 := Fr.app N58 (Fr.nil n0)
      refine Fin.go st59 ?_
      show Fin _ p e below s _ _ _ T59 (mkF m 202 #[.val (.int p0), .val (.int p1), .val (.int p2), .val (.int p3), .val (.ref a1), .val .null, .val (.ref a51), .val (.ref o52)] [.null])
      refine Fin.go (fun _ k => XT.ifnonnullNo X59.here hx rfl (hb hby at_202) rfl k) ?_
      show Fin _ p e below s _ _ _ T59 (mkF m 205 #[.val (.int p0), .val (.int p1), .val (.int p2), .val (.int p3), .val (.ref a1), .val .null, .val (.ref a51), .val (.ref o52)] [])
      refine Fin.go (fun _ k => XS.aload X59.here hx rfl (hb hby at_205) rfl rfl k) ?_
      show Fin _ p e below s _ _ _ T59 (mkF m 207 #[.val (.int p0), .val (.int p1), .val (.int p2), .val (.int p3), .val (.ref a1), .val .null, .val (.ref a51), .val (.ref o52)] [(.ref o52)])
      obtain ⟨v60, T60, L60, X60, q60, st60⟩ := callVt X59 hx hZ51 (y := (⟨"com/example/termspan/termspan/options/Option", "isFlag", "()Z"⟩ : MethodName)) hown51 (hw _ w_94) (hw _ w_95) (hw _ w_97) (hw _ w_96) (hw _ w_32) (hw _ w_98) (by decide) (W := 0) (rmFlN l Z a0 hw n0 T52.heap O52 o52 0 G52_value) e59 A52 (by decide) (by decide) (by decide) (by decide) (g := (mkF m 207 #[.val (.int p0), .val (.int p1), .val (.int p2), .val (.int p3), .val (.ref a1), .val .null, .val (.ref a51), .val (.ref o52)] [(.ref o52)])) rfl (by rw [hml]; rfl) (argsL := []) (rest := []) (lenOf pd_ocZ rfl) rfl (by show 2 * 0 + _ ≤ _; exact Nat.le_of_eq rfl) (hb hby at_207)
      obtain ⟨rfl, e60, rfl⟩ := q60
      have N60 := Fr.app N59 (Fr.nil n0)
      refine Fin.go st60 ?_
      show Fin _ p e below s _ _ _ T60 (mkF m 210 #[.val (.int p0), .val (.int p1), .val (.int p2), .val (.int p3), .val (.ref a1), .val .null, .val (.ref a51), .val (.ref o52)] [(.int (1 : Int32))])
      refine Fin.go (fun _ k => XS.aload X60.here hx rfl (hb hby at_210) rfl rfl k) ?_
      show Fin _ p e below s _ _ _ T60 (mkF m 212 #[.val (.int p0), .val (.int p1), .val (.int p2), .val (.int p3), .val (.ref a1), .val .null, .val (.ref a51), .val (.ref o52)] [.null, (.int (1 : Int32))])
      refine Fin.go (fun _ k => XT.ifnonnullNo X60.here hx rfl (hb hby at_212) rfl k) ?_
      show Fin _ p e below s _ _ _ T60 (mkF m 215 #[.val (.int p0), .val (.int p1), .val (.int p2), .val (.int p3), .val (.ref a1), .val .null, .val (.ref a51), .val (.ref o52)] [(.int (1 : Int32))])
      refine Fin.go (fun _ k => XS.iconst X60.here hx rfl (hb hby at_215) k) ?_
      show Fin _ p e below s _ _ _ T60 (mkF m 216 #[.val (.int p0), .val (.int p1), .val (.int p2), .val (.int p3), .val (.ref a1), .val .null, .val (.ref a51), .val (.ref o52)] [(.int (1 : Int32)), (.int (1 : Int32))])
      refine Fin.go (fun _ k => XS.goto X60.here hx rfl (pc0 := 216) (pc' := 220) rfl (hb hby at_216) (by decide) (by decide) k) ?_
      show Fin _ p e below s _ _ _ T60 (mkF m 220 #[.val (.int p0), .val (.int p1), .val (.int p2), .val (.int p3), .val (.ref a1), .val .null, .val (.ref a51), .val (.ref o52)] [(.int (1 : Int32)), (.int (1 : Int32))])
      refine Fin.go (fun _ k => XS.icmpNo X60.here hx rfl (hb hby at_220) rfl (XT.ii_ne_f (by decide)) k) ?_
      show Fin _ p e below s _ _ _ T60 (mkF m 223 #[.val (.int p0), .val (.int p1), .val (.int p2), .val (.int p3), .val (.ref a1), .val .null, .val (.ref a51), .val (.ref o52)] [])
      refine Fin.go (fun _ k => XS.iconst X60.here hx rfl (hb hby at_223) k) ?_
      show Fin _ p e below s _ _ _ T60 (mkF m 224 #[.val (.int p0), .val (.int p1), .val (.int p2), .val (.int p3), .val (.ref a1), .val .null, .val (.ref a51), .val (.ref o52)] [(.int (1 : Int32))])
      refine Fin.go (fun _ k => XS.goto X60.here hx rfl (pc0 := 224) (pc' := 228) rfl (hb hby at_224) (by decide) (by decide) k) ?_
      show Fin _ p e below s _ _ _ T60 (mkF m 228 #[.val (.int p0), .val (.int p1), .val (.int p2), .val (.int p3), .val (.ref a1), .val .null, .val (.ref a51), .val (.ref o52)] [(.int (1 : Int32))])
      exact Fin.leaveH X60 hS51 hk52 hZ51 hEL e60 RR52 hlk (v := some (.int (nar .boolean (1 : Int32)))) (fun h => by rw [hret] at h; cases h) (by decide) (by decide) ⟨rfl, N60⟩ (fun fs hr => retN X60 hx (t := .boolean) hret (by simp) (hb hby at_228) hr)
set_option maxRecDepth 65536 in
set_option maxHeartbeats 40000000 in
theorem comes_1 {Post : Tables → Env → Array Value → State → Outcome → State → Prop} (hpost : ∀ tb e args s v u, (limb_1_1.after args s (.returned v) u = true ∧ limb_1_2.after args s (.returned v) u = true ∧ True) → ReturnedEndW s (.returned v) u (Jvm.fieldLocs frame_1_writes args s ++ Jvm.arrayLocs frame_1_arrays args s ++ Jvm.staticLocs frame_1_statics s) 32 1216 → Post tb e args s (.returned v) u) :
    ArmFor flags0 classFile x code maxLocals ret World_1 tables_1 room_1 Calls_1 rest_1 Pre_1 Post := by
  intro l hfl _ _ p e ha hc hk s m args below hf hA hF happ hP
  obtain ⟨hcalls, hrest, hpre⟩ := hP
  obtain ⟨-, -, -, hnamed, -, -, -, hat⟩ := (Spec.applies_iff hf).mp happ
  obtain ⟨hg, hn⟩ := and_e (Cond.before_iff.mp (show (Jvm.Cond.and given_1 narrow_1).before args s = true from hpre))
  obtain ⟨hcnt, hg⟩ := and_e hg
  obtain ⟨u0, u1, u2, u3, rfl⟩ : ∃ u0 u1 u2 u3 : Value, args = #[u0, u1, u2, u3] := by
    have hs : args.size = 4 := by simpa [Cond.value, given_1] using hcnt
    obtain ⟨L⟩ := args
    match L, hs with
    | [u0, u1, u2, u3], _ => exact ⟨u0, u1, u2, u3, rfl⟩
  have hw := fun d (hd : d ∈ tables_1) => atoms_spec (ws := Jvm.Cond.code x code maxLocals ret :: tables_1) hat d (List.mem_cons_of_mem _ hd)
  have hfit : Fit s := fun {y c} hc i hi => by
    obtain ⟨ha, rfl⟩ := Array.getElem?_eq_some_iff.mp hc
    have q := List.all_eq_true.mp ((Array.all_eq_true_iff_forall_mem.mp hF) _ (Array.getElem_mem ha)) i (List.mem_range.mpr hi)
    simpa [Array.getElem?_eq_getElem hi] using q
  obtain ⟨g0, hg⟩ := and_e hg
  obtain ⟨i0, ei0⟩ := is_v g0
  obtain rfl : u0 = (.int i0) := Option.some.inj ei0
  obtain ⟨g1, hg⟩ := and_e hg
  obtain ⟨i1, ei1⟩ := is_v g1
  obtain rfl : u1 = (.int i1) := Option.some.inj ei1
  obtain ⟨g2, hg⟩ := and_e hg
  obtain ⟨i2, ei2⟩ := is_v g2
  obtain rfl : u2 = (.int i2) := Option.some.inj ei2
  have g3 := hg
  obtain ⟨i3, ei3⟩ := is_v g3
  obtain rfl : u3 = (.int i3) := Option.some.inj ei3
  have hsets := fun (i : Nat) {w : Jvm.Cond} (h : jdkStatics_1[i]? = some w) => (atoms_of _ (rest_1_c_eq ▸ (show rest_1_c.before _ s = true from hrest))).1 w (List.mem_of_getElem? h)
  have hci := Cond.before_iff.mp (hsets 1 rfl)
  obtain ⟨cs, ecs⟩ := is_v hci
  have S_cs := Sta.start ecs (Or.inl (hsets 0 rfl))
  have hcs : ¬ cs = 0 := gotF (Cond.eq_ints ecs (Term.int_eval 0)) (not_v (Cond.before_iff.mp (hsets 2 rfl)))
  have hCH : CHv s EL s.vm s.heap := fun p hp => by cases hp
  obtain ⟨n, o, h1, h2, h3, _, L, rfl, ⟨rfl, N⟩, -, hq⟩ := law l s _ hw s.heap.size s.heap (Old.start s) i0 i1 i2 i3 cs S_cs hcs p e ha hc hk s m _ below hf ((Spec.applies_iff_loose hf).mp happ).1 ⟨rfl, State.Warmed39.refl s, rfl, hCH⟩ trivial
  refine ⟨n, _, h1, h2, h3, hpost _ _ _ _ _ _ ⟨Cond.after_iff.mpr rfl, Cond.after_iff.mpr (eq_i res_at (Term.int_eval (1)) rfl), trivial⟩ ⟨hq.1, hq.2.1, hq.2.2.1, (hq.2.2.2.sift fun y hy => Or.inr (N y hy)).mono (by decide) (by decide)⟩⟩
theorem main_1_1 : Claimed_1_1 := comes_1 fun _ _ _ _ _ _ h hF => ⟨h.1, hF⟩
theorem main_1_2 : Claimed_1_2 := comes_1 fun _ _ _ _ _ _ h hF => ⟨h.2.1, hF⟩
end Jvm.Pilot.@@N@@
namespace Jvm.Pilot.@@N@@
open Jvm Jvm.ClassFile Sem Op Lib Jvm.Free Jvm.Stand Jvm.Pilot.@@N@@.Jvm.D
/-! MADE BY PROGRAM (witnessworld.py) out of the Statement's table words and the real class files: 21 classes; the members and pool entries that the words name. The judged class is class 1, her method 1. -/
namespace start1
open Jvm.ClassFile
def u (s : String) : CpInfo := .utf8 (stringToUtf16 s)
/-- a pool by its gaps: so many unusable entries, then the entry; so many at the end -/
def gap : Nat → List CpInfo → List CpInfo
  | 0, r => r
  | n + 1, r => .unusable :: gap n r
def poolList (es : List (Nat × CpInfo)) (last : Nat) : List CpInfo := es.foldr (fun e r => gap e.1 (e.2 :: r)) (gap last [])
def pool (es : List (Nat × CpInfo)) (last : Nat) : Array CpInfo := ⟨poolList es last⟩
def fileOf (pool : Array CpInfo) (this : Nat) (attrs : Array Attribute := #[]) (ms : Array MethodInfo := #[]) (fl : Nat := 33) (sup : Nat := 0) (ifs : Array Nat := #[]) (fds : Array FieldInfo := #[]) : ClassFile where
  minorVersion := 0
  majorVersion := 65
  constantPool := pool
  accessFlags := fl
  thisClass := this
  superClass := sup
  interfaces := ifs
  fields := fds
  methods := ms
  attributes := attrs
def plain (name : String) (sup : Option ClassId) : Class where
  name := name
  kind := .ordinary
  loader := none
  accessFlags := 33
  super := sup
  interfaces := #[]
  cf := none
  fields := #[]
  methods := #[]
  instanceTypes := #[]
  staticTypes := #[]
  resolved := #[]
  callSites := []
  init := .initialized
  statics := none
  mirror := none

def pool0 : Array CpInfo := pool [(5, u "<init>"), (0, u "()V"), (1, .class_ 10), (1, u "java/lang/Object")] 113

def k0c0 : Code := { maxStack := 0, maxLocals := 1, code := object_method_1_code, exceptionTable := #[], attributes := #[] }
def k0m0 : Method := { name := "<init>", desc := "()V", sig := { parameters := [], returnType := none }, accessFlags := 1, code := some k0c0 }
/-- java/lang/Object -/
def k0 : Class := { plain "java/lang/Object" none with
  accessFlags := 33
  interfaces := #[]
  cf := some (fileOf pool0 8 #[] #[{ accessFlags := 1, nameIndex := 5, descriptorIndex := 6, attributes := #[] }] 33 0 #[] #[])
  fields := #[]
  methods := #[k0m0]
  instanceTypes := #[]
  staticTypes := #[]
  resolved := Array.replicate 124 none
  statics := none }

def pool1 : Array CpInfo := pool [(2, .class_ 4), (1, u "java/lang/Object"), (0, u "<init>"), (0, u "()V"), (0, .class_ 8), (0, u "java/lang/String"), (0, .methodref 7 10), (0, .nameAndType 5 11), (0, u "([C)V"), (0, .string 13), (0, u ""), (0, .methodref 15 16), (0, .class_ 17), (0, .nameAndType 18 19), (0, u "com/example/termspan/termspan/options/Option"), (0, u "optional"), (0, u "(Ljava/lang/String;Ljava/lang/String;Ljava/lang/String;)Lcom/example/termspan/termspan/options/Option;"), (0, .methodref 15 21), (0, .nameAndType 22 23), (0, u "name"), (0, u "()Ljava/lang/String;"), (0, .methodref 15 25), (0, .nameAndType 26 23), (0, u "value"), (0, .methodref 15 28), (0, .nameAndType 29 23), (0, u "fallback"), (0, .methodref 15 31), (0, .nameAndType 32 33), (0, u "required"), (0, u "()Z"), (0, .methodref 15 35), (0, .nameAndType 36 33), (0, u "repeatable"), (0, .methodref 15 38), (0, .nameAndType 39 23), (0, u "description"), (0, .methodref 15 41), (0, .nameAndType 42 43), (0, u "range"), (0, u "()Lcom/example/termspan/termspan/options/Option$Range;"), (0, .methodref 15 45), (0, .nameAndType 46 33), (0, u "isFlag"), (0, .class_ 48), (0, u "com/example/termspan/termspan/options/OptionOptionalPinLaw"), (2, u "law"), (0, u "(IIII)Z")] 7

def k1m0 : Method := { name := "<init>", desc := "()V", sig := { parameters := [], returnType := none }, accessFlags := 1, code := none }
def k1c1 : Code := { maxStack := 7, maxLocals := 8, code := code, exceptionTable := #[], attributes := #[] }
def k1m1 : Method := { name := "law", desc := "(IIII)Z", sig := { parameters := [.int, .int, .int, .int], returnType := some .boolean }, accessFlags := 9, code := some k1c1 }
/-- com/example/termspan/termspan/options/OptionOptionalPinLaw -/
def k1 : Class := { plain "com/example/termspan/termspan/options/OptionOptionalPinLaw" (some 0) with
  accessFlags := 49
  interfaces := #[]
  cf := some (fileOf pool1 47 #[] #[{ accessFlags := 1, nameIndex := 5, descriptorIndex := 6, attributes := #[] }, { accessFlags := 9, nameIndex := 51, descriptorIndex := 52, attributes := #[] }] 49 2 #[] #[])
  fields := #[]
  methods := #[k1m0, k1m1]
  instanceTypes := #[]
  staticTypes := #[]
  resolved := Array.replicate 60 none
  statics := none }

def pool2 : Array CpInfo := pool [(1, .class_ 2), (0, u "java/io/Serializable"), (0, .class_ 4), (0, u "java/lang/Object")] 2

/-- java/io/Serializable -/
def k2 : Class := { plain "java/io/Serializable" (some 0) with
  accessFlags := 1537
  interfaces := #[]
  cf := some (fileOf pool2 1 #[] #[] 1537 3 #[] #[])
  fields := #[]
  methods := #[]
  instanceTypes := #[]
  staticTypes := #[]
  resolved := Array.replicate 7 none
  statics := none }

def pool3 : Array CpInfo := pool [(1, .class_ 2), (0, u "java/lang/Comparable"), (0, .class_ 4), (0, u "java/lang/Object")] 7

/-- java/lang/Comparable -/
def k3 : Class := { plain "java/lang/Comparable" (some 0) with
  accessFlags := 1537
  interfaces := #[]
  cf := some (fileOf pool3 1 #[] #[] 1537 3 #[] #[])
  fields := #[]
  methods := #[]
  instanceTypes := #[]
  staticTypes := #[]
  resolved := Array.replicate 12 none
  statics := none }

def pool4 : Array CpInfo := pool [(2, .class_ 4), (1, u "java/lang/CharSequence"), (42, .class_ 48), (0, u "java/lang/CharSequence$1CodePointIterator"), (10, .class_ 60), (0, u "java/lang/CharSequence$1CharIterator"), (5, .class_ 67), (0, u "java/lang/Object")] 63

/-- java/lang/CharSequence -/
def k4 : Class := { plain "java/lang/CharSequence" (some 0) with
  accessFlags := 1537
  interfaces := #[]
  cf := some (fileOf pool4 2 #[.nestMembers #[47, 59]] #[] 1537 66 #[] #[])
  fields := #[]
  methods := #[]
  instanceTypes := #[]
  staticTypes := #[]
  resolved := Array.replicate 131 none
  statics := none }

def pool5 : Array CpInfo := pool [(1, .class_ 2), (0, u "java/lang/constant/Constable"), (0, .class_ 4), (0, u "java/lang/Object")] 6

/-- java/lang/constant/Constable -/
def k5 : Class := { plain "java/lang/constant/Constable" (some 0) with
  accessFlags := 1537
  interfaces := #[]
  cf := some (fileOf pool5 1 #[] #[] 1537 3 #[] #[])
  fields := #[]
  methods := #[]
  instanceTypes := #[]
  staticTypes := #[]
  resolved := Array.replicate 11 none
  statics := none }

def pool6 : Array CpInfo := pool [(1, .class_ 2), (0, u "java/lang/constant/ConstantDesc"), (0, .class_ 4), (0, u "java/lang/Object")] 32

/-- java/lang/constant/ConstantDesc -/
def k6 : Class := { plain "java/lang/constant/ConstantDesc" (some 0) with
  accessFlags := 1537
  interfaces := #[]
  cf := some (fileOf pool6 1 #[] #[] 1537 3 #[] #[])
  fields := #[]
  methods := #[]
  instanceTypes := #[]
  staticTypes := #[]
  resolved := Array.replicate 37 none
  statics := none }

def pool7 : Array CpInfo := pool [(1, .methodref 2 3), (0, .class_ 4), (0, .nameAndType 5 6), (0, u "java/lang/Object"), (0, u "<init>"), (0, u "()V"), (2, .fieldref 10 11), (0, .class_ 12), (0, .nameAndType 13 14), (0, u "java/lang/String"), (0, u "value"), (0, u "[B"), (0, .fieldref 10 16), (0, .nameAndType 17 18), (0, u "coder"), (0, u "B"), (2, u "hash"), (0, u "I"), (2, u "hashIsZero"), (0, u "Z"), (0, .methodref 10 28), (0, .nameAndType 5 29), (0, u "([CIILjava/lang/Void;)V"), (8, .fieldref 10 39), (0, .nameAndType 40 26), (0, u "COMPACT_STRINGS"), (1, .class_ 44), (1, u "java/lang/StringUTF16"), (0, u "compress"), (1, .methodref 42 48), (0, .nameAndType 49 50), (0, u "coderFromArrayLen"), (0, u "([BI)B"), (126, .methodref 42 178), (0, .nameAndType 45 179), (0, u "([CII)[B"), (395, .class_ 576), (0, u "java/lang/CharSequence"), (22, u "CASE_INSENSITIVE_ORDER"), (0, u "Ljava/util/Comparator;"), (409, u "([C)V"), (90, u "serialPersistentFields"), (0, u "[Ljava/io/ObjectStreamField;"), (0, .class_ 1104), (0, u "java/lang/String$CaseInsensitiveComparator"), (1, .class_ 1107), (0, u "java/io/Serializable"), (0, .class_ 1109), (0, u "java/lang/Comparable"), (0, .class_ 1111), (0, u "java/lang/constant/Constable"), (0, .class_ 1113), (0, u "java/lang/constant/ConstantDesc"), (2, u "serialVersionUID"), (0, u "J"), (3, u "REPL"), (0, u "C"), (2, u "LATIN1"), (1, u "UTF16")] 323

def k7m0 : Method := { name := "<init>", desc := "()V", sig := { parameters := [], returnType := none }, accessFlags := 1, code := none }
def k7c1 : Code := { maxStack := 5, maxLocals := 2, code := jdk_42_method_3_code, exceptionTable := #[], attributes := #[] }
def k7m1 : Method := { name := "<init>", desc := "([C)V", sig := { parameters := [(.array .char)], returnType := none }, accessFlags := 1, code := some k7c1 }
def k7c2 : Code := { maxStack := 4, maxLocals := 6, code := jdk_42_method_149_code, exceptionTable := #[], attributes := #[] }
def k7m2 : Method := { name := "<init>", desc := "([CIILjava/lang/Void;)V", sig := { parameters := [(.array .char), .int, .int, (.object "java/lang/Void")], returnType := none }, accessFlags := 2, code := some k7c2 }
/-- java/lang/String -/
def k7 : Class := { plain "java/lang/String" (some 0) with
  accessFlags := 49
  interfaces := #[2, 3, 4, 5, 6]
  cf := some (fileOf pool7 10 #[.nestMembers #[1103]] #[{ accessFlags := 1, nameIndex := 5, descriptorIndex := 6, attributes := #[] }, { accessFlags := 1, nameIndex := 5, descriptorIndex := 1010, attributes := #[] }, { accessFlags := 2, nameIndex := 5, descriptorIndex := 29, attributes := #[] }] 49 2 #[1106, 1108, 575, 1110, 1112] #[{ accessFlags := 18, nameIndex := 13, descriptorIndex := 14, attributes := #[] }, { accessFlags := 18, nameIndex := 17, descriptorIndex := 18, attributes := #[] }, { accessFlags := 2, nameIndex := 21, descriptorIndex := 22, attributes := #[] }, { accessFlags := 2, nameIndex := 25, descriptorIndex := 26, attributes := #[] }, { accessFlags := 26, nameIndex := 1116, descriptorIndex := 1117, attributes := #[] }, { accessFlags := 24, nameIndex := 40, descriptorIndex := 26, attributes := #[] }, { accessFlags := 26, nameIndex := 1101, descriptorIndex := 1102, attributes := #[] }, { accessFlags := 26, nameIndex := 1121, descriptorIndex := 1122, attributes := #[] }, { accessFlags := 25, nameIndex := 599, descriptorIndex := 600, attributes := #[] }, { accessFlags := 24, nameIndex := 1125, descriptorIndex := 18, attributes := #[] }, { accessFlags := 24, nameIndex := 1127, descriptorIndex := 18, attributes := #[] }])
  fields := #[{ name := "value", type := (.array .byte), accessFlags := 18, slot := 0, constantValue := 0 }, { name := "coder", type := .byte, accessFlags := 18, slot := 1, constantValue := 0 }, { name := "hash", type := .int, accessFlags := 2, slot := 2, constantValue := 0 }, { name := "hashIsZero", type := .boolean, accessFlags := 2, slot := 3, constantValue := 0 }, { name := "serialVersionUID", type := .long, accessFlags := 26, slot := 0, constantValue := 0 }, { name := "COMPACT_STRINGS", type := .boolean, accessFlags := 24, slot := 1, constantValue := 0 }, { name := "serialPersistentFields", type := (.array (.object "java/io/ObjectStreamField")), accessFlags := 26, slot := 2, constantValue := 0 }, { name := "REPL", type := .char, accessFlags := 26, slot := 3, constantValue := 0 }, { name := "CASE_INSENSITIVE_ORDER", type := (.object "java/util/Comparator"), accessFlags := 25, slot := 4, constantValue := 0 }, { name := "LATIN1", type := .byte, accessFlags := 24, slot := 5, constantValue := 0 }, { name := "UTF16", type := .byte, accessFlags := 24, slot := 6, constantValue := 0 }]
  methods := #[k7m0, k7m1, k7m2]
  instanceTypes := #[(.array .byte), .byte, .int, .boolean]
  staticTypes := #[.long, .boolean, (.array (.object "java/io/ObjectStreamField")), .char, (.object "java/util/Comparator"), .byte, .byte]
  resolved := Array.replicate 1451 none
  statics := some 0 }

def pool8 : Array CpInfo := pool [(6, .class_ 8), (1, u "java/lang/Object"), (0, u "<init>"), (0, u "()V"), (1, .class_ 14), (1, u "java/lang/StringUTF16"), (31, u "$assertionsDisabled"), (0, u "Z"), (13, u "HI_BYTE_SHIFT"), (0, u "I"), (2, u "LO_BYTE_SHIFT"), (49, .methodref 12 116), (0, .nameAndType 117 118), (0, u "compress"), (0, u "([CI[BII)I"), (3, u "([CII)[B"), (138, u "coderFromArrayLen"), (0, u "([BI)B"), (106, .class_ 371), (1, u "java/lang/StringUTF16$LinesSpliterator"), (58, u "MAX_LENGTH"), (196, .class_ 628), (0, u "java/lang/StringUTF16$CodePointsSpliterator"), (0, .class_ 630), (0, u "java/lang/StringUTF16$CharsSpliterator")] 4

def k8m0 : Method := { name := "<init>", desc := "()V", sig := { parameters := [], returnType := none }, accessFlags := 0, code := none }
def k8c1 : Code := { maxStack := 2, maxLocals := 2, code := jdk_52_method_15_code, exceptionTable := #[], attributes := #[] }
def k8m1 : Method := { name := "coderFromArrayLen", desc := "([BI)B", sig := { parameters := [(.array .byte), .int], returnType := some .byte }, accessFlags := 8, code := some k8c1 }
def k8c2 : Code := { maxStack := 5, maxLocals := 6, code := jdk_52_method_16_code, exceptionTable := #[], attributes := #[] }
def k8m2 : Method := { name := "compress", desc := "([CII)[B", sig := { parameters := [(.array .char), .int, .int], returnType := some (.array .byte) }, accessFlags := 9, code := some k8c2 }
def k8c3 : Code := { maxStack := 3, maxLocals := 7, code := jdk_52_method_21_code, exceptionTable := #[], attributes := #[] }
def k8m3 : Method := { name := "compress", desc := "([CI[BII)I", sig := { parameters := [(.array .char), .int, (.array .byte), .int, .int], returnType := some .int }, accessFlags := 9, code := some k8c3 }
/-- java/lang/StringUTF16 -/
def k8 : Class := { plain "java/lang/StringUTF16" (some 0) with
  accessFlags := 48
  interfaces := #[]
  cf := some (fileOf pool8 12 #[.nestMembers #[627, 629, 369]] #[{ accessFlags := 0, nameIndex := 9, descriptorIndex := 10, attributes := #[] }, { accessFlags := 8, nameIndex := 261, descriptorIndex := 262, attributes := #[] }, { accessFlags := 9, nameIndex := 117, descriptorIndex := 122, attributes := #[] }, { accessFlags := 9, nameIndex := 117, descriptorIndex := 118, attributes := #[] }] 48 6 #[] #[{ accessFlags := 26, nameIndex := 61, descriptorIndex := 62, attributes := #[] }, { accessFlags := 26, nameIndex := 65, descriptorIndex := 62, attributes := #[] }, { accessFlags := 24, nameIndex := 430, descriptorIndex := 62, attributes := #[] }, { accessFlags := 4120, nameIndex := 46, descriptorIndex := 47, attributes := #[] }])
  fields := #[{ name := "HI_BYTE_SHIFT", type := .int, accessFlags := 26, slot := 0, constantValue := 0 }, { name := "LO_BYTE_SHIFT", type := .int, accessFlags := 26, slot := 1, constantValue := 0 }, { name := "MAX_LENGTH", type := .int, accessFlags := 24, slot := 2, constantValue := 0 }, { name := "$assertionsDisabled", type := .boolean, accessFlags := 4120, slot := 3, constantValue := 0 }]
  methods := #[k8m0, k8m1, k8m2, k8m3]
  instanceTypes := #[]
  staticTypes := #[.int, .int, .int, .boolean]
  resolved := Array.replicate 635 none
  statics := none }

def pool9 : Array CpInfo := pool [(1, .methodref 2 3), (0, .class_ 4), (0, .nameAndType 5 6), (0, u "java/lang/Object"), (0, u "<init>"), (0, u "()V"), (0, .class_ 8), (0, u "java/lang/Record")] 13

def k9c0 : Code := { maxStack := 1, maxLocals := 1, code := jdk_30_method_1_code, exceptionTable := #[], attributes := #[] }
def k9m0 : Method := { name := "<init>", desc := "()V", sig := { parameters := [], returnType := none }, accessFlags := 4, code := some k9c0 }
/-- java/lang/Record -/
def k9 : Class := { plain "java/lang/Record" (some 0) with
  accessFlags := 1057
  interfaces := #[]
  cf := some (fileOf pool9 7 #[] #[{ accessFlags := 4, nameIndex := 5, descriptorIndex := 6, attributes := #[] }] 1057 2 #[] #[])
  fields := #[]
  methods := #[k9m0]
  instanceTypes := #[]
  staticTypes := #[]
  resolved := Array.replicate 22 none
  statics := none }

def pool10 : Array CpInfo := pool [(1, .methodref 2 3), (0, .class_ 4), (0, .nameAndType 5 6), (0, u "java/lang/Record"), (0, u "<init>"), (0, u "()V"), (0, .fieldref 8 9), (0, .class_ 10), (0, .nameAndType 11 12), (0, u "com/example/termspan/termspan/options/Option"), (0, u "name"), (0, u "Ljava/lang/String;"), (0, .fieldref 8 14), (0, .nameAndType 15 12), (0, u "value"), (0, .fieldref 8 17), (0, .nameAndType 18 12), (0, u "fallback"), (0, .fieldref 8 20), (0, .nameAndType 21 22), (0, u "required"), (0, u "Z"), (0, .fieldref 8 24), (0, .nameAndType 25 22), (0, u "repeatable"), (0, .fieldref 8 27), (0, .nameAndType 28 12), (0, u "description"), (0, .fieldref 8 30), (0, .nameAndType 31 32), (0, u "range"), (0, u "Lcom/example/termspan/termspan/options/Option$Range;"), (0, .methodref 8 34), (0, .nameAndType 5 35), (0, u "(Ljava/lang/String;Ljava/lang/String;Ljava/lang/String;ZZLjava/lang/String;Lcom/example/termspan/termspan/options/Option$Range;)V"), (1, .class_ 39), (1, u "com/example/termspan/termspan/options/Option$Range"), (1, u "()Ljava/lang/String;"), (10, u "optional"), (48, u "()Z"), (36, u "isFlag"), (41, u "DESCRIPTION_COLUMN"), (0, u "I"), (5, u "(Ljava/lang/String;Ljava/lang/String;Ljava/lang/String;)Lcom/example/termspan/termspan/options/Option;"), (18, u "()Lcom/example/termspan/termspan/options/Option$Range;")] 46

def k10c0 : Code := { maxStack := 2, maxLocals := 8, code := prog_31_method_1_code, exceptionTable := #[], attributes := #[] }
def k10m0 : Method := { name := "<init>", desc := "(Ljava/lang/String;Ljava/lang/String;Ljava/lang/String;ZZLjava/lang/String;Lcom/example/termspan/termspan/options/Option$Range;)V", sig := { parameters := [(.object "java/lang/String"), (.object "java/lang/String"), (.object "java/lang/String"), .boolean, .boolean, (.object "java/lang/String"), (.object "com/example/termspan/termspan/options/Option$Range")], returnType := none }, accessFlags := 1, code := some k10c0 }
def k10c1 : Code := { maxStack := 9, maxLocals := 3, code := prog_31_method_4_code, exceptionTable := #[], attributes := #[] }
def k10m1 : Method := { name := "optional", desc := "(Ljava/lang/String;Ljava/lang/String;Ljava/lang/String;)Lcom/example/termspan/termspan/options/Option;", sig := { parameters := [(.object "java/lang/String"), (.object "java/lang/String"), (.object "java/lang/String")], returnType := some (.object "com/example/termspan/termspan/options/Option") }, accessFlags := 9, code := some k10c1 }
def k10c2 : Code := { maxStack := 1, maxLocals := 1, code := prog_31_method_12_code, exceptionTable := #[], attributes := #[] }
def k10m2 : Method := { name := "isFlag", desc := "()Z", sig := { parameters := [], returnType := some .boolean }, accessFlags := 0, code := some k10c2 }
def k10c3 : Code := { maxStack := 1, maxLocals := 1, code := prog_31_method_20_code, exceptionTable := #[], attributes := #[] }
def k10m3 : Method := { name := "name", desc := "()Ljava/lang/String;", sig := { parameters := [], returnType := some (.object "java/lang/String") }, accessFlags := 1, code := some k10c3 }
def k10c4 : Code := { maxStack := 1, maxLocals := 1, code := prog_31_method_21_code, exceptionTable := #[], attributes := #[] }
def k10m4 : Method := { name := "value", desc := "()Ljava/lang/String;", sig := { parameters := [], returnType := some (.object "java/lang/String") }, accessFlags := 1, code := some k10c4 }
def k10c5 : Code := { maxStack := 1, maxLocals := 1, code := prog_31_method_22_code, exceptionTable := #[], attributes := #[] }
def k10m5 : Method := { name := "fallback", desc := "()Ljava/lang/String;", sig := { parameters := [], returnType := some (.object "java/lang/String") }, accessFlags := 1, code := some k10c5 }
def k10c6 : Code := { maxStack := 1, maxLocals := 1, code := prog_31_method_23_code, exceptionTable := #[], attributes := #[] }
def k10m6 : Method := { name := "required", desc := "()Z", sig := { parameters := [], returnType := some .boolean }, accessFlags := 1, code := some k10c6 }
def k10c7 : Code := { maxStack := 1, maxLocals := 1, code := prog_31_method_24_code, exceptionTable := #[], attributes := #[] }
def k10m7 : Method := { name := "repeatable", desc := "()Z", sig := { parameters := [], returnType := some .boolean }, accessFlags := 1, code := some k10c7 }
def k10c8 : Code := { maxStack := 1, maxLocals := 1, code := prog_31_method_25_code, exceptionTable := #[], attributes := #[] }
def k10m8 : Method := { name := "description", desc := "()Ljava/lang/String;", sig := { parameters := [], returnType := some (.object "java/lang/String") }, accessFlags := 1, code := some k10c8 }
def k10c9 : Code := { maxStack := 1, maxLocals := 1, code := prog_31_method_26_code, exceptionTable := #[], attributes := #[] }
def k10m9 : Method := { name := "range", desc := "()Lcom/example/termspan/termspan/options/Option$Range;", sig := { parameters := [], returnType := some (.object "com/example/termspan/termspan/options/Option$Range") }, accessFlags := 1, code := some k10c9 }
/-- com/example/termspan/termspan/options/Option -/
def k10 : Class := { plain "com/example/termspan/termspan/options/Option" (some 9) with
  accessFlags := 49
  interfaces := #[]
  cf := some (fileOf pool10 8 #[.nestMembers #[37]] #[{ accessFlags := 1, nameIndex := 5, descriptorIndex := 35, attributes := #[] }, { accessFlags := 9, nameIndex := 52, descriptorIndex := 187, attributes := #[] }, { accessFlags := 0, nameIndex := 138, descriptorIndex := 101, attributes := #[] }, { accessFlags := 1, nameIndex := 11, descriptorIndex := 41, attributes := #[] }, { accessFlags := 1, nameIndex := 15, descriptorIndex := 41, attributes := #[] }, { accessFlags := 1, nameIndex := 18, descriptorIndex := 41, attributes := #[] }, { accessFlags := 1, nameIndex := 21, descriptorIndex := 101, attributes := #[] }, { accessFlags := 1, nameIndex := 25, descriptorIndex := 101, attributes := #[] }, { accessFlags := 1, nameIndex := 28, descriptorIndex := 41, attributes := #[] }, { accessFlags := 1, nameIndex := 31, descriptorIndex := 206, attributes := #[] }] 49 2 #[] #[{ accessFlags := 18, nameIndex := 11, descriptorIndex := 12, attributes := #[] }, { accessFlags := 18, nameIndex := 15, descriptorIndex := 12, attributes := #[] }, { accessFlags := 18, nameIndex := 18, descriptorIndex := 12, attributes := #[] }, { accessFlags := 18, nameIndex := 21, descriptorIndex := 22, attributes := #[] }, { accessFlags := 18, nameIndex := 25, descriptorIndex := 22, attributes := #[] }, { accessFlags := 18, nameIndex := 28, descriptorIndex := 12, attributes := #[] }, { accessFlags := 18, nameIndex := 31, descriptorIndex := 32, attributes := #[] }, { accessFlags := 26, nameIndex := 180, descriptorIndex := 181, attributes := #[] }])
  fields := #[{ name := "name", type := (.object "java/lang/String"), accessFlags := 18, slot := 0, constantValue := 0 }, { name := "value", type := (.object "java/lang/String"), accessFlags := 18, slot := 1, constantValue := 0 }, { name := "fallback", type := (.object "java/lang/String"), accessFlags := 18, slot := 2, constantValue := 0 }, { name := "required", type := .boolean, accessFlags := 18, slot := 3, constantValue := 0 }, { name := "repeatable", type := .boolean, accessFlags := 18, slot := 4, constantValue := 0 }, { name := "description", type := (.object "java/lang/String"), accessFlags := 18, slot := 5, constantValue := 0 }, { name := "range", type := (.object "com/example/termspan/termspan/options/Option$Range"), accessFlags := 18, slot := 6, constantValue := 0 }, { name := "DESCRIPTION_COLUMN", type := .int, accessFlags := 26, slot := 0, constantValue := 0 }]
  methods := #[k10m0, k10m1, k10m2, k10m3, k10m4, k10m5, k10m6, k10m7, k10m8, k10m9]
  instanceTypes := #[(.object "java/lang/String"), (.object "java/lang/String"), (.object "java/lang/String"), .boolean, .boolean, (.object "java/lang/String"), (.object "com/example/termspan/termspan/options/Option$Range")]
  staticTypes := #[.int]
  resolved := Array.replicate 253 none
  statics := none }

def pool11 : Array CpInfo := pool [(4, .class_ 6), (1, u "java/lang/Object"), (0, u "<init>"), (0, u "()V"), (5, .class_ 16), (1, u "java/lang/StringLatin1"), (104, u "$assertionsDisabled"), (0, u "Z"), (98, .class_ 223), (1, u "java/lang/StringLatin1$LinesSpliterator"), (166, .class_ 391), (0, u "java/lang/StringLatin1$CharsSpliterator")] 3

def k11m0 : Method := { name := "<init>", desc := "()V", sig := { parameters := [], returnType := none }, accessFlags := 0, code := none }
/-- java/lang/StringLatin1 -/
def k11 : Class := { plain "java/lang/StringLatin1" (some 0) with
  accessFlags := 48
  interfaces := #[]
  cf := some (fileOf pool11 14 #[.nestMembers #[390, 221]] #[{ accessFlags := 0, nameIndex := 7, descriptorIndex := 8, attributes := #[] }] 48 4 #[] #[{ accessFlags := 4120, nameIndex := 121, descriptorIndex := 122, attributes := #[] }])
  fields := #[{ name := "$assertionsDisabled", type := .boolean, accessFlags := 4120, slot := 0, constantValue := 0 }]
  methods := #[k11m0]
  instanceTypes := #[]
  staticTypes := #[.boolean]
  resolved := Array.replicate 395 none
  statics := none }

def pool12 : Array CpInfo := pool [(2, .class_ 4), (1, u "java/lang/Object"), (0, u "<init>"), (0, u "()V"), (17, .class_ 26), (1, u "jdk/internal/util/Preconditions"), (28, .class_ 56), (0, u "jdk/internal/util/Preconditions$4"), (57, .class_ 115), (0, u "jdk/internal/util/Preconditions$1"), (7, u "SIOOBE_FORMATTER"), (0, u "Ljava/util/function/BiFunction;"), (0, .class_ 126), (0, u "jdk/internal/util/Preconditions$2"), (3, u "AIOOBE_FORMATTER"), (0, .class_ 132), (0, u "jdk/internal/util/Preconditions$3"), (3, u "IOOBE_FORMATTER")] 57

def k12m0 : Method := { name := "<init>", desc := "()V", sig := { parameters := [], returnType := none }, accessFlags := 1, code := none }
/-- jdk/internal/util/Preconditions -/
def k12 : Class := { plain "jdk/internal/util/Preconditions" (some 0) with
  accessFlags := 33
  interfaces := #[]
  cf := some (fileOf pool12 24 #[.nestMembers #[55, 131, 125, 114]] #[{ accessFlags := 1, nameIndex := 5, descriptorIndex := 6, attributes := #[] }] 33 2 #[] #[{ accessFlags := 25, nameIndex := 123, descriptorIndex := 124, attributes := #[] }, { accessFlags := 25, nameIndex := 130, descriptorIndex := 124, attributes := #[] }, { accessFlags := 25, nameIndex := 136, descriptorIndex := 124, attributes := #[] }])
  fields := #[{ name := "SIOOBE_FORMATTER", type := (.object "java/util/function/BiFunction"), accessFlags := 25, slot := 0, constantValue := 0 }, { name := "AIOOBE_FORMATTER", type := (.object "java/util/function/BiFunction"), accessFlags := 25, slot := 1, constantValue := 0 }, { name := "IOOBE_FORMATTER", type := (.object "java/util/function/BiFunction"), accessFlags := 25, slot := 2, constantValue := 0 }]
  methods := #[k12m0]
  instanceTypes := #[]
  staticTypes := #[(.object "java/util/function/BiFunction"), (.object "java/util/function/BiFunction"), (.object "java/util/function/BiFunction")]
  resolved := Array.replicate 194 none
  statics := some 1 }

def pool13 : Array CpInfo := pool [(9, u "<init>"), (6, .class_ 18), (1, u "java/lang/Object"), (0, u "()V"), (1, .class_ 23), (1, u "jdk/internal/util/ArraysSupport"), (0, u "LOG2_ARRAY_LONG_INDEX_SCALE"), (0, u "I"), (2, u "U"), (0, u "Ljdk/internal/misc/Unsafe;"), (8, u "BIG_ENDIAN"), (0, u "Z"), (8, u "LOG2_BYTE_BIT_SIZE"), (4, u "LOG2_ARRAY_INT_INDEX_SCALE"), (54, u "JLA"), (0, u "Ljdk/internal/access/JavaLangAccess;"), (11, u "LOG2_ARRAY_BOOLEAN_INDEX_SCALE"), (9, u "LOG2_ARRAY_BYTE_INDEX_SCALE"), (5, u "LOG2_ARRAY_CHAR_INDEX_SCALE"), (5, u "LOG2_ARRAY_SHORT_INDEX_SCALE"), (18, u "LOG2_ARRAY_FLOAT_INDEX_SCALE"), (24, u "LOG2_ARRAY_DOUBLE_INDEX_SCALE"), (89, u "T_BOOLEAN"), (2, u "T_CHAR"), (1, u "T_FLOAT"), (1, u "T_DOUBLE"), (1, u "T_BYTE"), (1, u "T_SHORT"), (1, u "T_INT"), (1, u "T_LONG"), (1, u "SOFT_MAX_ARRAY_LENGTH")] 83

def k13m0 : Method := { name := "<init>", desc := "()V", sig := { parameters := [], returnType := none }, accessFlags := 2, code := none }
/-- jdk/internal/util/ArraysSupport -/
def k13 : Class := { plain "jdk/internal/util/ArraysSupport" (some 0) with
  accessFlags := 33
  interfaces := #[]
  cf := some (fileOf pool13 21 #[] #[{ accessFlags := 2, nameIndex := 9, descriptorIndex := 19, attributes := #[] }] 33 16 #[] #[{ accessFlags := 24, nameIndex := 28, descriptorIndex := 29, attributes := #[] }, { accessFlags := 26, nameIndex := 38, descriptorIndex := 39, attributes := #[] }, { accessFlags := 25, nameIndex := 121, descriptorIndex := 25, attributes := #[] }, { accessFlags := 25, nameIndex := 131, descriptorIndex := 25, attributes := #[] }, { accessFlags := 25, nameIndex := 137, descriptorIndex := 25, attributes := #[] }, { accessFlags := 25, nameIndex := 143, descriptorIndex := 25, attributes := #[] }, { accessFlags := 25, nameIndex := 53, descriptorIndex := 25, attributes := #[] }, { accessFlags := 25, nameIndex := 24, descriptorIndex := 25, attributes := #[] }, { accessFlags := 25, nameIndex := 162, descriptorIndex := 25, attributes := #[] }, { accessFlags := 25, nameIndex := 187, descriptorIndex := 25, attributes := #[] }, { accessFlags := 26, nameIndex := 48, descriptorIndex := 25, attributes := #[] }, { accessFlags := 25, nameIndex := 277, descriptorIndex := 25, attributes := #[] }, { accessFlags := 25, nameIndex := 280, descriptorIndex := 25, attributes := #[] }, { accessFlags := 25, nameIndex := 282, descriptorIndex := 25, attributes := #[] }, { accessFlags := 25, nameIndex := 284, descriptorIndex := 25, attributes := #[] }, { accessFlags := 25, nameIndex := 286, descriptorIndex := 25, attributes := #[] }, { accessFlags := 25, nameIndex := 288, descriptorIndex := 25, attributes := #[] }, { accessFlags := 25, nameIndex := 290, descriptorIndex := 25, attributes := #[] }, { accessFlags := 25, nameIndex := 292, descriptorIndex := 25, attributes := #[] }, { accessFlags := 26, nameIndex := 108, descriptorIndex := 109, attributes := #[] }, { accessFlags := 25, nameIndex := 294, descriptorIndex := 25, attributes := #[] }])
  fields := #[{ name := "U", type := (.object "jdk/internal/misc/Unsafe"), accessFlags := 24, slot := 0, constantValue := 0 }, { name := "BIG_ENDIAN", type := .boolean, accessFlags := 26, slot := 1, constantValue := 0 }, { name := "LOG2_ARRAY_BOOLEAN_INDEX_SCALE", type := .int, accessFlags := 25, slot := 2, constantValue := 0 }, { name := "LOG2_ARRAY_BYTE_INDEX_SCALE", type := .int, accessFlags := 25, slot := 3, constantValue := 0 }, { name := "LOG2_ARRAY_CHAR_INDEX_SCALE", type := .int, accessFlags := 25, slot := 4, constantValue := 0 }, { name := "LOG2_ARRAY_SHORT_INDEX_SCALE", type := .int, accessFlags := 25, slot := 5, constantValue := 0 }, { name := "LOG2_ARRAY_INT_INDEX_SCALE", type := .int, accessFlags := 25, slot := 6, constantValue := 0 }, { name := "LOG2_ARRAY_LONG_INDEX_SCALE", type := .int, accessFlags := 25, slot := 7, constantValue := 0 }, { name := "LOG2_ARRAY_FLOAT_INDEX_SCALE", type := .int, accessFlags := 25, slot := 8, constantValue := 0 }, { name := "LOG2_ARRAY_DOUBLE_INDEX_SCALE", type := .int, accessFlags := 25, slot := 9, constantValue := 0 }, { name := "LOG2_BYTE_BIT_SIZE", type := .int, accessFlags := 26, slot := 10, constantValue := 0 }, { name := "T_BOOLEAN", type := .int, accessFlags := 25, slot := 11, constantValue := 0 }, { name := "T_CHAR", type := .int, accessFlags := 25, slot := 12, constantValue := 0 }, { name := "T_FLOAT", type := .int, accessFlags := 25, slot := 13, constantValue := 0 }, { name := "T_DOUBLE", type := .int, accessFlags := 25, slot := 14, constantValue := 0 }, { name := "T_BYTE", type := .int, accessFlags := 25, slot := 15, constantValue := 0 }, { name := "T_SHORT", type := .int, accessFlags := 25, slot := 16, constantValue := 0 }, { name := "T_INT", type := .int, accessFlags := 25, slot := 17, constantValue := 0 }, { name := "T_LONG", type := .int, accessFlags := 25, slot := 18, constantValue := 0 }, { name := "JLA", type := (.object "jdk/internal/access/JavaLangAccess"), accessFlags := 26, slot := 19, constantValue := 0 }, { name := "SOFT_MAX_ARRAY_LENGTH", type := .int, accessFlags := 25, slot := 20, constantValue := 0 }]
  methods := #[k13m0]
  instanceTypes := #[]
  staticTypes := #[(.object "jdk/internal/misc/Unsafe"), .boolean, .int, .int, .int, .int, .int, .int, .int, .int, .int, .int, .int, .int, .int, .int, .int, .int, .int, (.object "jdk/internal/access/JavaLangAccess"), .int]
  resolved := Array.replicate 378 none
  statics := none }

def pool14 : Array CpInfo := pool [(1, u "java/lang/Cloneable"), (0, .class_ 1), (0, u "java/lang/Object"), (0, .class_ 3)] 3

/-- java/lang/Cloneable -/
def k14 : Class := { plain "java/lang/Cloneable" (some 0) with
  accessFlags := 1537
  interfaces := #[]
  cf := some (fileOf pool14 2 #[] #[] 1537 4 #[] #[])
  fields := #[]
  methods := #[]
  instanceTypes := #[]
  staticTypes := #[]
  resolved := Array.replicate 8 none
  statics := none }

/-- the primitive byte -/
def k15 : Class := { plain "byte" none with kind := .primitive 'B', accessFlags := 0x411 }
/-- [B -/
def k16 : Class := { plain "[B" (some 0) with kind := .array 15 .byte, interfaces := #[14, 2], accessFlags := 1041 }

/-- the primitive char -/
def k17 : Class := { plain "char" none with kind := .primitive 'C', accessFlags := 0x411 }
/-- [C -/
def k18 : Class := { plain "[C" (some 0) with kind := .array 17 .char, interfaces := #[14, 2], accessFlags := 1041 }

/-- the primitive int -/
def k19 : Class := { plain "int" none with kind := .primitive 'I', accessFlags := 0x411 }
/-- [I -/
def k20 : Class := { plain "[I" (some 0) with kind := .array 19 .int, interfaces := #[14, 2], accessFlags := 1041 }

def heap : Heap := #[{ cls := 7, slots := #[.long 0, .int 1, .null, .int 0, .null, .int 0, .int 0], vm := .statics 7 },
  { cls := 12, slots := #[.null, .null, .null], vm := .statics 12 }]
def classes : Array Class := #[k0, k1, k2, k3, k4, k5, k6, k7, k8, k9, k10, k11, k12, k13, k14, k15, k16, k17, k18, k19, k20]
def interned : List (Array UInt16 × Addr) := []
def slotsUsed : Nat := 10
def theMethod : MethodId := ⟨1, 1⟩
def args0 : Array Value := #[.int 0, .int 5, .int 0, .int 0]
def aboutOver (below : List Frame) : State where
  vm := { classes := classes, interned := interned.toArray }
  heap := heap
  slotsUsed := slotsUsed
  threads := #[{ frames := .invoking theMethod args0 :: below }]
def below0 : List Frame := [.native { method := ⟨0, 0⟩, args := #[] }]
def about1 : State := aboutOver below0
def p0 : Program := .bare "" "" ""
def e0 : Env := launch0.env 0 0 0
theorem w_frames : about1.frames = Frame.invoking theMethod args0 :: below0 := rfl
set_option maxRecDepth 65536 in
theorem w_args : argsFit about1.vm theMethod args0 = true := by decide +kernel
set_option maxRecDepth 65536 in
theorem w_heap : heapFits about1 = true := by decide +kernel
set_option maxRecDepth 65536 in
theorem w_runnable : about1.curStatus? = some .runnable := by decide +kernel
set_option maxRecDepth 65536 in
theorem w_alone : about1.alone = true := by decide +kernel
set_option maxRecDepth 65536 in
theorem w_named : about1.methodNamed? x = some theMethod := by decide +kernel
set_option maxRecDepth 65536 in
theorem w_hears : about1.hears theMethod below0 = true := by decide +kernel
set_option maxRecDepth 65536 in
theorem w_ripe : about1.ripe theMethod args0 below0 = true := by decide +kernel
theorem w_running : about1.status = .running := rfl
set_option maxRecDepth 65536 in
theorem w_room : about1.hasRoom e0.platform room_1 = true :=
  launch0.hasRoom_least _ room_1 (by decide +kernel) (by decide +kernel) (by decide +kernel) (by decide +kernel) (by decide +kernel) (by decide +kernel)
theorem allAtoms_all (ts : List Jvm.Cond) (a : Array Jvm.Value) (st : Jvm.State) : (allAtoms ts).before a st = ts.all (fun c => c.before a st) := by
  induction ts with
  | nil => rfl
  | cons c t ih =>
    show (Jvm.Cond.and c (allAtoms t)).before a st = _
    rw [Jvm.Cond.before_and, ih, List.all_cons]
def words1 : List Jvm.Cond := Jvm.Cond.code x code maxLocals ret :: tables_1
/-- a 'code' word, met by the world's own term for the bytes: nothing is compared byte by byte -/
theorem code_word {y : MethodName} {bytes : ByteArray} {mx : Nat} {rt : Option FieldType} {a : Array Value} {s : State} {m : MethodId} {meth : Method} {c : Code} (h1 : s.methodNamed? y = some m) (h2 : s.vm.method? m = some meth) (h3 : meth.code = some c) (h4 : c.code = bytes)
    (h5 : (c.maxLocals == mx && c.exceptionTable.isEmpty && decide (c.maxStack ≤ mostOperands) && decide (meth.sig.returnType = rt) && !meth.locks && decide (parseMethodDescriptor y.desc = some meth.sig)) = true) : (Jvm.Cond.code y bytes mx rt).before a s = true := by
  simp only [Bool.and_eq_true, beq_iff_eq, Bool.not_eq_true', decide_eq_true_eq] at h5
  obtain ⟨⟨⟨⟨⟨g1, g2⟩, g3⟩, g4⟩, g5⟩, g6⟩ := h5
  simp [Cond.before, Cond.holds, Cond.value, h1, h2, h3, h4, g1, g2, g3, g4, g5, g6]
def isCode : Jvm.Cond → Bool
  | .code _ _ _ _ => true
  | _ => false
theorem all_split {L : List Jvm.Cond} {P : Jvm.Cond → Bool} (h1 : L.all (fun c => isCode c || P c) = true) (h2 : ∀ c ∈ L.filter isCode, P c = true) : L.all P = true := by
  refine List.all_eq_true.mpr fun c hc => ?_
  have h := List.all_eq_true.mp h1 c hc
  rcases Bool.eq_false_or_eq_true (isCode c) with hi | hi
  · exact h2 c (List.mem_filter.mpr ⟨hc, hi⟩)
  · simpa [hi] using h
set_option maxRecDepth 65536 in
theorem w_c0 : (Jvm.Cond.code x code maxLocals ret).before args0 about1 = true := code_word (m := ⟨1, 1⟩) (meth := k1m1) (c := k1c1) (by decide +kernel) rfl rfl rfl (by decide +kernel)
set_option maxRecDepth 65536 in
theorem w_c1 : (Jvm.Cond.code ({ cls := "java/lang/String", name := "<init>", desc := "([C)V" } : Jvm.MethodName) jdk_42_method_3_code (2 : Nat) (Option.none : Option Jvm.ClassFile.FieldType)).before args0 about1 = true := code_word (m := ⟨7, 1⟩) (meth := k7m1) (c := k7c1) (by decide +kernel) rfl rfl rfl (by decide +kernel)
set_option maxRecDepth 65536 in
theorem w_c2 : (Jvm.Cond.code ({ cls := "java/lang/String", name := "<init>", desc := "([CIILjava/lang/Void;)V" } : Jvm.MethodName) jdk_42_method_149_code (6 : Nat) (Option.none : Option Jvm.ClassFile.FieldType)).before args0 about1 = true := code_word (m := ⟨7, 2⟩) (meth := k7m2) (c := k7c2) (by decide +kernel) rfl rfl rfl (by decide +kernel)
set_option maxRecDepth 65536 in
theorem w_c3 : (Jvm.Cond.code ({ cls := "java/lang/Object", name := "<init>", desc := "()V" } : Jvm.MethodName) object_method_1_code (1 : Nat) (Option.none : Option Jvm.ClassFile.FieldType)).before args0 about1 = true := code_word (m := ⟨0, 0⟩) (meth := k0m0) (c := k0c0) (by decide +kernel) rfl rfl rfl (by decide +kernel)
set_option maxRecDepth 65536 in
theorem w_c4 : (Jvm.Cond.code ({ cls := "java/lang/StringUTF16", name := "compress", desc := "([CII)[B" } : Jvm.MethodName) jdk_52_method_16_code (6 : Nat) (Option.some (Jvm.ClassFile.FieldType.array Jvm.ClassFile.FieldType.byte))).before args0 about1 = true := code_word (m := ⟨8, 2⟩) (meth := k8m2) (c := k8c2) (by decide +kernel) rfl rfl rfl (by decide +kernel)
set_option maxRecDepth 65536 in
theorem w_c5 : (Jvm.Cond.code ({ cls := "java/lang/StringUTF16", name := "compress", desc := "([CI[BII)I" } : Jvm.MethodName) jdk_52_method_21_code (7 : Nat) (Option.some Jvm.ClassFile.FieldType.int)).before args0 about1 = true := code_word (m := ⟨8, 3⟩) (meth := k8m3) (c := k8c3) (by decide +kernel) rfl rfl rfl (by decide +kernel)
set_option maxRecDepth 65536 in
theorem w_c6 : (Jvm.Cond.code ({ cls := "java/lang/StringUTF16", name := "coderFromArrayLen", desc := "([BI)B" } : Jvm.MethodName) jdk_52_method_15_code (2 : Nat) (Option.some Jvm.ClassFile.FieldType.byte)).before args0 about1 = true := code_word (m := ⟨8, 1⟩) (meth := k8m1) (c := k8c1) (by decide +kernel) rfl rfl rfl (by decide +kernel)
set_option maxRecDepth 65536 in
theorem w_c7 : (Jvm.Cond.code ({ cls := "com/example/termspan/termspan/options/Option", name := "optional", desc := "(Ljava/lang/String;Ljava/lang/String;Ljava/lang/String;)Lcom/example/termspan/termspan/options/Option;" } : Jvm.MethodName) prog_31_method_4_code (3 : Nat) (Option.some (Jvm.ClassFile.FieldType.object "com/example/termspan/termspan/options/Option"))).before args0 about1 = true := code_word (m := ⟨10, 1⟩) (meth := k10m1) (c := k10c1) (by decide +kernel) rfl rfl rfl (by decide +kernel)
set_option maxRecDepth 65536 in
theorem w_c8 : (Jvm.Cond.code ({ cls := "com/example/termspan/termspan/options/Option", name := "<init>", desc := "(Ljava/lang/String;Ljava/lang/String;Ljava/lang/String;ZZLjava/lang/String;Lcom/example/termspan/termspan/options/Option$Range;)V" } : Jvm.MethodName) prog_31_method_1_code (8 : Nat) (Option.none : Option Jvm.ClassFile.FieldType)).before args0 about1 = true := code_word (m := ⟨10, 0⟩) (meth := k10m0) (c := k10c0) (by decide +kernel) rfl rfl rfl (by decide +kernel)
set_option maxRecDepth 65536 in
theorem w_c9 : (Jvm.Cond.code ({ cls := "java/lang/Record", name := "<init>", desc := "()V" } : Jvm.MethodName) jdk_30_method_1_code (1 : Nat) (Option.none : Option Jvm.ClassFile.FieldType)).before args0 about1 = true := code_word (m := ⟨9, 0⟩) (meth := k9m0) (c := k9c0) (by decide +kernel) rfl rfl rfl (by decide +kernel)
set_option maxRecDepth 65536 in
theorem w_c10 : (Jvm.Cond.code ({ cls := "com/example/termspan/termspan/options/Option", name := "name", desc := "()Ljava/lang/String;" } : Jvm.MethodName) prog_31_method_20_code (1 : Nat) (Option.some (Jvm.ClassFile.FieldType.object "java/lang/String"))).before args0 about1 = true := code_word (m := ⟨10, 3⟩) (meth := k10m3) (c := k10c3) (by decide +kernel) rfl rfl rfl (by decide +kernel)
set_option maxRecDepth 65536 in
theorem w_c11 : (Jvm.Cond.code ({ cls := "com/example/termspan/termspan/options/Option", name := "value", desc := "()Ljava/lang/String;" } : Jvm.MethodName) prog_31_method_21_code (1 : Nat) (Option.some (Jvm.ClassFile.FieldType.object "java/lang/String"))).before args0 about1 = true := code_word (m := ⟨10, 4⟩) (meth := k10m4) (c := k10c4) (by decide +kernel) rfl rfl rfl (by decide +kernel)
set_option maxRecDepth 65536 in
theorem w_c12 : (Jvm.Cond.code ({ cls := "com/example/termspan/termspan/options/Option", name := "fallback", desc := "()Ljava/lang/String;" } : Jvm.MethodName) prog_31_method_22_code (1 : Nat) (Option.some (Jvm.ClassFile.FieldType.object "java/lang/String"))).before args0 about1 = true := code_word (m := ⟨10, 5⟩) (meth := k10m5) (c := k10c5) (by decide +kernel) rfl rfl rfl (by decide +kernel)
set_option maxRecDepth 65536 in
theorem w_c13 : (Jvm.Cond.code ({ cls := "com/example/termspan/termspan/options/Option", name := "required", desc := "()Z" } : Jvm.MethodName) prog_31_method_23_code (1 : Nat) (Option.some Jvm.ClassFile.FieldType.boolean)).before args0 about1 = true := code_word (m := ⟨10, 6⟩) (meth := k10m6) (c := k10c6) (by decide +kernel) rfl rfl rfl (by decide +kernel)
set_option maxRecDepth 65536 in
theorem w_c14 : (Jvm.Cond.code ({ cls := "com/example/termspan/termspan/options/Option", name := "repeatable", desc := "()Z" } : Jvm.MethodName) prog_31_method_24_code (1 : Nat) (Option.some Jvm.ClassFile.FieldType.boolean)).before args0 about1 = true := code_word (m := ⟨10, 7⟩) (meth := k10m7) (c := k10c7) (by decide +kernel) rfl rfl rfl (by decide +kernel)
set_option maxRecDepth 65536 in
theorem w_c15 : (Jvm.Cond.code ({ cls := "com/example/termspan/termspan/options/Option", name := "description", desc := "()Ljava/lang/String;" } : Jvm.MethodName) prog_31_method_25_code (1 : Nat) (Option.some (Jvm.ClassFile.FieldType.object "java/lang/String"))).before args0 about1 = true := code_word (m := ⟨10, 8⟩) (meth := k10m8) (c := k10c8) (by decide +kernel) rfl rfl rfl (by decide +kernel)
set_option maxRecDepth 65536 in
theorem w_c16 : (Jvm.Cond.code ({ cls := "com/example/termspan/termspan/options/Option", name := "range", desc := "()Lcom/example/termspan/termspan/options/Option$Range;" } : Jvm.MethodName) prog_31_method_26_code (1 : Nat) (Option.some (Jvm.ClassFile.FieldType.object "com/example/termspan/termspan/options/Option$Range"))).before args0 about1 = true := code_word (m := ⟨10, 9⟩) (meth := k10m9) (c := k10c9) (by decide +kernel) rfl rfl rfl (by decide +kernel)
set_option maxRecDepth 65536 in
theorem w_c17 : (Jvm.Cond.code ({ cls := "com/example/termspan/termspan/options/Option", name := "isFlag", desc := "()Z" } : Jvm.MethodName) prog_31_method_12_code (1 : Nat) (Option.some Jvm.ClassFile.FieldType.boolean)).before args0 about1 = true := code_word (m := ⟨10, 2⟩) (meth := k10m2) (c := k10c2) (by decide +kernel) rfl rfl rfl (by decide +kernel)
def codes1 : List Jvm.Cond := [Jvm.Cond.code x code maxLocals ret, Jvm.Cond.code ({ cls := "java/lang/String", name := "<init>", desc := "([C)V" } : Jvm.MethodName) jdk_42_method_3_code (2 : Nat) (Option.none : Option Jvm.ClassFile.FieldType), Jvm.Cond.code ({ cls := "java/lang/String", name := "<init>", desc := "([CIILjava/lang/Void;)V" } : Jvm.MethodName) jdk_42_method_149_code (6 : Nat) (Option.none : Option Jvm.ClassFile.FieldType), Jvm.Cond.code ({ cls := "java/lang/Object", name := "<init>", desc := "()V" } : Jvm.MethodName) object_method_1_code (1 : Nat) (Option.none : Option Jvm.ClassFile.FieldType), Jvm.Cond.code ({ cls := "java/lang/StringUTF16", name := "compress", desc := "([CII)[B" } : Jvm.MethodName) jdk_52_method_16_code (6 : Nat) (Option.some (Jvm.ClassFile.FieldType.array Jvm.ClassFile.FieldType.byte)), Jvm.Cond.code ({ cls := "java/lang/StringUTF16", name := "compress", desc := "([CI[BII)I" } : Jvm.MethodName) jdk_52_method_21_code (7 : Nat) (Option.some Jvm.ClassFile.FieldType.int), Jvm.Cond.code ({ cls := "java/lang/StringUTF16", name := "coderFromArrayLen", desc := "([BI)B" } : Jvm.MethodName) jdk_52_method_15_code (2 : Nat) (Option.some Jvm.ClassFile.FieldType.byte), Jvm.Cond.code ({ cls := "com/example/termspan/termspan/options/Option", name := "optional", desc := "(Ljava/lang/String;Ljava/lang/String;Ljava/lang/String;)Lcom/example/termspan/termspan/options/Option;" } : Jvm.MethodName) prog_31_method_4_code (3 : Nat) (Option.some (Jvm.ClassFile.FieldType.object "com/example/termspan/termspan/options/Option")), Jvm.Cond.code ({ cls := "com/example/termspan/termspan/options/Option", name := "<init>", desc := "(Ljava/lang/String;Ljava/lang/String;Ljava/lang/String;ZZLjava/lang/String;Lcom/example/termspan/termspan/options/Option$Range;)V" } : Jvm.MethodName) prog_31_method_1_code (8 : Nat) (Option.none : Option Jvm.ClassFile.FieldType), Jvm.Cond.code ({ cls := "java/lang/Record", name := "<init>", desc := "()V" } : Jvm.MethodName) jdk_30_method_1_code (1 : Nat) (Option.none : Option Jvm.ClassFile.FieldType), Jvm.Cond.code ({ cls := "com/example/termspan/termspan/options/Option", name := "name", desc := "()Ljava/lang/String;" } : Jvm.MethodName) prog_31_method_20_code (1 : Nat) (Option.some (Jvm.ClassFile.FieldType.object "java/lang/String")), Jvm.Cond.code ({ cls := "com/example/termspan/termspan/options/Option", name := "value", desc := "()Ljava/lang/String;" } : Jvm.MethodName) prog_31_method_21_code (1 : Nat) (Option.some (Jvm.ClassFile.FieldType.object "java/lang/String")), Jvm.Cond.code ({ cls := "com/example/termspan/termspan/options/Option", name := "fallback", desc := "()Ljava/lang/String;" } : Jvm.MethodName) prog_31_method_22_code (1 : Nat) (Option.some (Jvm.ClassFile.FieldType.object "java/lang/String")), Jvm.Cond.code ({ cls := "com/example/termspan/termspan/options/Option", name := "required", desc := "()Z" } : Jvm.MethodName) prog_31_method_23_code (1 : Nat) (Option.some Jvm.ClassFile.FieldType.boolean), Jvm.Cond.code ({ cls := "com/example/termspan/termspan/options/Option", name := "repeatable", desc := "()Z" } : Jvm.MethodName) prog_31_method_24_code (1 : Nat) (Option.some Jvm.ClassFile.FieldType.boolean), Jvm.Cond.code ({ cls := "com/example/termspan/termspan/options/Option", name := "description", desc := "()Ljava/lang/String;" } : Jvm.MethodName) prog_31_method_25_code (1 : Nat) (Option.some (Jvm.ClassFile.FieldType.object "java/lang/String")), Jvm.Cond.code ({ cls := "com/example/termspan/termspan/options/Option", name := "range", desc := "()Lcom/example/termspan/termspan/options/Option$Range;" } : Jvm.MethodName) prog_31_method_26_code (1 : Nat) (Option.some (Jvm.ClassFile.FieldType.object "com/example/termspan/termspan/options/Option$Range")), Jvm.Cond.code ({ cls := "com/example/termspan/termspan/options/Option", name := "isFlag", desc := "()Z" } : Jvm.MethodName) prog_31_method_12_code (1 : Nat) (Option.some Jvm.ClassFile.FieldType.boolean)]
set_option maxRecDepth 65536 in
theorem codes_eq : words1.filter isCode = codes1 := rfl
theorem w_codes : ∀ c ∈ words1.filter isCode, c.before args0 about1 = true := by
  rw [codes_eq]
  intro c hc
  simp only [codes1, List.mem_cons, List.not_mem_nil, or_false] at hc
  rcases hc with rfl | rfl | rfl | rfl | rfl | rfl | rfl | rfl | rfl | rfl | rfl | rfl | rfl | rfl | rfl | rfl | rfl | rfl
  · exact w_c0
  · exact w_c1
  · exact w_c2
  · exact w_c3
  · exact w_c4
  · exact w_c5
  · exact w_c6
  · exact w_c7
  · exact w_c8
  · exact w_c9
  · exact w_c10
  · exact w_c11
  · exact w_c12
  · exact w_c13
  · exact w_c14
  · exact w_c15
  · exact w_c16
  · exact w_c17
set_option maxRecDepth 65536 in
theorem w_t1 : (words1.take 24).all (fun c => isCode c || c.before args0 about1) = true := by decide +kernel
set_option maxRecDepth 65536 in
theorem w_t2 : ((words1.drop 24).take 24).all (fun c => isCode c || c.before args0 about1) = true := by decide +kernel
set_option maxRecDepth 65536 in
theorem w_t3 : (((words1.drop 24).drop 24).take 24).all (fun c => isCode c || c.before args0 about1) = true := by decide +kernel
set_option maxRecDepth 65536 in
theorem w_t4 : ((((words1.drop 24).drop 24).drop 24).take 24).all (fun c => isCode c || c.before args0 about1) = true := by decide +kernel
set_option maxRecDepth 65536 in
theorem w_t5 : ((((words1.drop 24).drop 24).drop 24).drop 24).all (fun c => isCode c || c.before args0 about1) = true := by decide +kernel
theorem w_tables : (allAtoms (Jvm.Cond.code x code maxLocals ret :: tables_1)).before args0 about1 = true := by
  rw [allAtoms_all]
  show words1.all (fun c => c.before args0 about1) = true
  refine all_split ?_ w_codes
  rw [← List.take_append_drop 24 words1, List.all_append, w_t1, ← List.take_append_drop 24 (words1.drop 24), List.all_append, w_t2, ← List.take_append_drop 24 ((words1.drop 24).drop 24), List.all_append, w_t3, ← List.take_append_drop 24 (((words1.drop 24).drop 24).drop 24), List.all_append, w_t4, w_t5]
  rfl
set_option maxRecDepth 65536 in
theorem w_rest : rest_1_c.before args0 about1 = true := by decide +kernel
set_option maxRecDepth 65536 in
theorem w_case : (Jvm.Cond.and given_1 narrow_1).before args0 about1 = true := by decide +kernel
theorem w_applies : (headSpec (Jvm.Cond.code x code maxLocals ret :: tables_1) room_1).applies x e0.platform about1 = true :=
  (Spec.applies_iff w_frames).mpr ⟨w_running, w_runnable, w_alone, w_named, w_hears, w_ripe, w_room, w_tables⟩
theorem atStart : AtStart classFile x code maxLocals ret World_1 tables_1 room_1 Calls_1 rest_1 Pre_1 launch0 p0 e0 about1 theMethod args0 below0 :=
  ⟨lists_1, trivial, launch0.admits_env _ _ _, launch0.least_env, fairChoices_fair.cas, fairChoices_fair.clock, w_frames, w_args, w_heap, w_applies, trivial, w_rest, w_case⟩
end start1
theorem witness_1 : WitnessClaimed_1 := ⟨start1.p0, start1.e0, start1.about1, start1.theMethod, start1.args0, start1.below0, start1.atStart⟩
end Jvm.Pilot.@@N@@
