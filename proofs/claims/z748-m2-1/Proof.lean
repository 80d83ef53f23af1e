import JvmDerived
import JvmDerived.Pilot.@@N@@Statement
import JvmDerived.Pilot.@@N@@Code
set_option linter.unusedVariables false
set_option linter.unusedSimpArgs false
namespace Jvm.RoadKit
open Sem ClassFile Op Lib Jvm.Stand Jvm.Free Jvm.LawKit
section New
variable {p : Program} {l : Launch} {e : Env} {R : Room} {s : State} {m : MethodId} {args : Array Value} {below : List Frame} {meth : Method} {c : Code} {T : State} {locs : List Loc} {cells slots : Nat}
theorem retI (X : Stand p l e R s m args below meth c T locs cells slots) (hx : p.tables.exec = Jvm.exec) {pc : Nat} {Ls : Array Slot} {z : Int32} {rest : List Value} (hret : meth.sig.returnType = some .int) (hd : decode c.code pc = .ok (.ireturn, 1)) {fs : List Frame}
    (hl : ∀ (f : JFrame) (acts : List Action), f.method = m → f.locked = none → f.entered = [] → (doReturn e (T.setTop f) acts (some (.int z))).1 = T.setFrames fs) : Steps p.tables e below (T.setTop (mkF m pc Ls (.int z :: rest))) (T.setFrames fs) :=
  retOut X hx hret rfl (Or.inl ⟨rfl, Or.inl rfl, z, rfl⟩) hd hl
end New
end Jvm.RoadKit
namespace Jvm.Pilot.@@N@@
open Jvm Jvm.ClassFile Sem Op Lib Jvm.Free Jvm.Stand Jvm.LawKit Jvm.RoadKit Bundle Jvm.Pilot.@@N@@.Jvm.D
section OwnKit
variable {p : Program} {l : Launch} {e : Env} {R : Room} {s s' : State} {m : MethodId} {args : Array Value} {below : List Frame} {meth : Method} {c : Code} {T T' : State} {locs : List Loc} {cells slots : Nat} {g g' : JFrame} {Z : State} {a0 : Array Value} {h : Heap} {Q : Option Value → Heap → List Loc → Prop} {k n : Nat} {E : State → Outcome → State → List Loc → Nat → Nat → Prop}
/-- the run goes on from here to its end, and the end is as Q and the frame E say -/
def Fin (E : State → Outcome → State → List Loc → Nat → Nat → Prop) (p : Program) (e : Env) (below : List Frame) (s : State) (Q : Option Value → Heap → List Loc → Prop) (k n : Nat) (T : State) (g : JFrame) : Prop :=
  ∃ (s₂ : State) (o : Outcome), Steps p.tables e below (T.setTop g) s₂ ∧ s₂.status = .running ∧ Ended s₂ below o ∧ ∃ v L, o = .returned v ∧ Q v s₂.heap L ∧ E s o s₂ L k n
theorem Fin.go (st : ∀ t, Steps p.tables e below (T'.setTop g') t → Steps p.tables e below (T.setTop g) t) (w : Fin E p e below s Q k n T' g') : Fin E p e below s Q k n T g := by
  obtain ⟨s₂, o, h1, r⟩ := w
  exact ⟨s₂, o, st _ h1, r⟩
theorem Fin.came (st : Steps p.tables e below (T.setTop g) (T'.setTop g')) (w : Fin E p e below s Q k n T' g') : Fin E p e below s Q k n T g := by
  obtain ⟨s₂, o, h1, r⟩ := w
  exact ⟨s₂, o, st.trans h1, r⟩
theorem Fin.leaveN (X : Stand p l e R s m args below meth c T locs cells slots) (eT : T.heap = h) (hlk : meth.locks = false) {v : Option Value} (hv : meth.sig.returnType = none → v = none) (hk : cells ≤ k) (hn : slots ≤ n) (hq : Q v h locs)
    (st : ∀ fs, (∀ (f : JFrame) (acts : List Action), f.method = m → f.locked = none → f.entered = [] → (doReturn e (T.setTop f) acts v).1 = T.setFrames fs) → Steps p.tables e below (T.setTop g) (T.setFrames fs)) : Fin FrameEnd p e below s Q k n T g := by
  subst eT
  obtain ⟨fs, hr, hrun, hended, hW, hsame⟩ := X.leave hv hlk
  exact ⟨_, _, st fs hr, hrun, hended, v, locs, rfl, hq, ⟨v, rfl⟩, hW, hsame.mono hk hn⟩
/-- a body's contract: called with these arguments at this heap, it comes back as Q says -/
abbrev ConW (E : State → Outcome → State → List Loc → Nat → Nat → Prop) (l : Launch) (Z : State) (ws : List Jvm.Cond) (y : MethodName) (bytes : ByteArray) (maxL : Nat) (ret : Option FieldType) (rm : Room) (as' : Array Value) (h : Heap) (Q : Option Value → Heap → List Loc → Prop) : Prop :=
  MetFree l y (head1 (Jvm.Cond.code y bytes maxL ret :: ws) rm) (fun a U => a = as' ∧ Z.Warmed39 U.vm ∧ U.heap = h) (fun _ _ _ _ _ => True) (fun _ U o U' => ∃ v L, o = .returned v ∧ Q v U'.heap L ∧ E U o U' L rm.cells rm.slots)
abbrev Con (E : State → Outcome → State → List Loc → Nat → Nat → Prop) (l : Launch) (Z : State) (y : MethodName) (bytes : ByteArray) (maxL : Nat) (ret : Option FieldType) (rm : Room) (as' : Array Value) (h : Heap) (Q : Option Value → Heap → List Loc → Prop) : Prop := ConW E l Z [] y bytes maxL ret rm as' h Q
theorem conOf {ws : List Jvm.Cond} {y : MethodName} {bytes : ByteArray} {maxL : Nat} {ret : Option FieldType} {rm : Room} {as' : Array Value} (hpn : plainFor y = true)
    (body : ∀ (p : Program) (e : Env) (s : State) (m : MethodId) (below : List Frame) (meth : Method) (c : Code) (s₁ : State), Stand p l e rm s m as' below meth c s₁ [] 0 0 → p.tables.exec = Jvm.exec → c.code = bytes → c.maxLocals = maxL → s.vm.findClass y.cls = some m.cls → meth.name = y.name →
      meth.sig.returnType = ret → meth.locks = false → Z.Warmed39 s.vm → s₁.heap = h → Fin E p e below s Q rm.cells rm.slots s₁ (entryFrame m as' maxL)) : ConW E l Z ws y bytes maxL ret rm as' h Q := by
  refine MetFree.of_bodySF hpn hisR ?_
  intro p e s m args below meth c s₁ Bd hml hP hK
  obtain ⟨rfl, hZ, hh⟩ := hP
  exact body p e s m below meth c s₁ (Stand.of_body Bd) Bd.exec Bd.bytes hml (findClass_of_methodNamed Bd.named) (name_of_methodNamed Bd.named Bd.method).1 Bd.returns (BodyLoose.notSynchronized Bd) hZ (by rw [← hh, Bd.state]; rfl)
/-- nothing moved; r is returned -/
abbrev Pure (h0 : Heap) (r : Option Value) : Option Value → Heap → List Loc → Prop := fun v h L => v = r ∧ h = h0 ∧ L = []
theorem nar_refv {v : Value} {t : FieldType} (h : v.isRef = true) (ht : t.isReference = true) : narrow t v = v := by
  rcases ref_cases h with rfl | ⟨a, rfl⟩ <;> cases t <;> first | rfl | (simp [FieldType.isReference] at ht)
theorem fits_refv {v : Value} {t : FieldType} (h : v.isRef = true) (ht : t.isReference = true) : fits t v = true := by
  rcases ref_cases h with rfl | ⟨a, rfl⟩ <;> cases t <;> first | rfl | (simp [FieldType.isReference] at ht)
theorem nar_b8 (x : Int32) : nar .byte ((Int32.toInt8 x).toInt32) = (Int32.toInt8 x).toInt32 := by simp [nar]
theorem nar_c16 (x : Int32) : nar .char ((Int32.toUInt32 x).toUInt16.toUInt32.toInt32) = (Int32.toUInt32 x).toUInt16.toUInt32.toInt32 := by simp only [nar, UInt32.toUInt32_toInt32, UInt16.toUInt16_toUInt32]
section Calls
variable {own : String} {index : Nat} {y z : MethodName} {bytes : ByteArray} {maxL : Nat} {ret : Option FieldType} {rm : Room} {W : Nat} {Qc : Option Value → Heap → List Loc → Prop} {argsL rest : List Value}
theorem callSt (X : Stand p l e R s m args below meth c T locs cells slots) (hx : p.tables.exec = Jvm.exec) (hZ : Z.Warmed39 s.vm) (hown : s.vm.findClass own = some m.cls)
    (w1 : (Jvm.Cond.methodLink own index y).before a0 Z = true) (w2 : (Jvm.Cond.static y).before a0 Z = true) (w3 : (Jvm.Cond.initialized y.cls).before a0 Z = true) (w4 : (Jvm.Cond.code y bytes maxL ret).before a0 Z = true) (hy : y.cls ≠ "java/lang/invoke/MethodHandle" ∧ y.cls ≠ "java/lang/invoke/VarHandle")
    (hC : Con FrameEnd l Z y bytes maxL ret rm argsL.toArray h Qc) (eT : T.heap = h) (hf : rm.frames + 1 ≤ R.frames) (hl : W + (maxL + 11) + rm.locals ≤ R.locals) (hc : cells + rm.cells ≤ R.cells) (hs : slots + rm.slots ≤ R.slots)
    (hg : g.method = m) (hsize : g.locals.size = c.maxLocals) (hlen : ∀ sig, parseMethodDescriptor y.desc = some sig → argsL.length = sig.parameters.length) (hstack : g.stack = argsL.reverse ++ rest) (hW : 2 * g.monitorRoom + (rest.map fun v => v.category).sum ≤ W) (hdg : decode c.code g.pc = .ok (.invokestatic index, 3)) :
    ∃ (v : Option Value) (T' : State) (L : List Loc), Stand p l e R s m args below meth c T' (locs ++ L) (cells + rm.cells) (slots + rm.slots) ∧ Qc v T'.heap L ∧ ∀ target, Steps p.tables e below (T'.setTop { g with pc := g.pc + 3, stack := v.toList ++ rest }) target → Steps p.tables e below (T.setTop g) target := by
  obtain ⟨v, _, ⟨T2, L2, k2, n2⟩, -, X2, ⟨Lc2, hQ2, l2, y2, z2⟩, st2⟩ := Jvm.LawKit.callS X hx hown (mvT hZ w1) (mvT hZ w2) (mvT hZ w3) (mvT hZ w4) hy (backOf (W := W) hC hZ w4 w3 hf hl) hg hsize hlen hstack hW hdg (fun _ _ => ⟨rfl, eT, hc, hs⟩)
  dsimp only [Pt.U, Pt.locs, Pt.cells, Pt.slots] at X2 l2 y2 z2 st2 hQ2
  subst l2 y2 z2
  exact ⟨v, T2, Lc2, X2, hQ2, st2⟩
theorem callCt (X : Stand p l e R s m args below meth c T locs cells slots) (hx : p.tables.exec = Jvm.exec) (hZ : Z.Warmed39 s.vm) (hy1 : y.name = "<init>") (hown : s.vm.findClass own = some m.cls)
    (w1 : (Jvm.Cond.methodLink own index y).before a0 Z = true) (w2 : (Jvm.Cond.instanceMethod y).before a0 Z = true) (w3 : (Jvm.Cond.initialized y.cls).before a0 Z = true) (w4 : (Jvm.Cond.code y bytes maxL none).before a0 Z = true) (hy : y.cls ≠ "java/lang/invoke/MethodHandle" ∧ y.cls ≠ "java/lang/invoke/VarHandle")
    {a : Addr} (hC : Con FrameEnd l Z y bytes maxL none rm (.ref a :: argsL).toArray h Qc) (eT : T.heap = h) (hf : rm.frames + 1 ≤ R.frames) (hl : W + (maxL + 11) + rm.locals ≤ R.locals) (hc : cells + rm.cells ≤ R.cells) (hs : slots + rm.slots ≤ R.slots)
    (hg : g.method = m) (hsize : g.locals.size = c.maxLocals) (hlen : ∀ sig, parseMethodDescriptor y.desc = some sig → argsL.length = sig.parameters.length) (hstack : g.stack = argsL.reverse ++ .ref a :: rest) (hW : 2 * g.monitorRoom + (rest.map fun v => v.category).sum ≤ W) (hdg : decode c.code g.pc = .ok (.invokespecial index, 3)) :
    ∃ (v : Option Value) (T' : State) (L : List Loc), Stand p l e R s m args below meth c T' (locs ++ L) (cells + rm.cells) (slots + rm.slots) ∧ Qc v T'.heap L ∧ ∀ target, Steps p.tables e below (T'.setTop { g with pc := g.pc + 3, stack := v.toList ++ rest }) target → Steps p.tables e below (T.setTop g) target := by
  obtain ⟨v, _, ⟨T2, L2, k2, n2⟩, -, X2, ⟨Lc2, hQ2, l2, y2, z2⟩, st2⟩ := X.specialBack hx hy1 hown (mvT hZ w1) (mvT hZ w2) (mvT hZ w4) hy (backOf (W := W) hC hZ w4 w3 hf hl) hg hsize (Steps.refl _) hlen hstack hW hdg (fun _ _ => ⟨rfl, eT, hc, hs⟩)
  dsimp only [Pt.U, Pt.locs, Pt.cells, Pt.slots] at X2 l2 y2 z2 st2 hQ2
  subst l2 y2 z2
  exact ⟨v, T2, Lc2, X2, hQ2, fun _ k => st2.trans k⟩
theorem callVt {C : String} (X : Stand p l e R s m args below meth c T locs cells slots) (hx : p.tables.exec = Jvm.exec) (hZ : Z.Warmed39 s.vm) (hown : s.vm.findClass own = some m.cls)
    (w1 : (Jvm.Cond.methodLink own index y).before a0 Z = true) (w2 : (Jvm.Cond.declares y).before a0 Z = true) (w3 : (Jvm.Cond.selects C y y).before a0 Z = true) (w4 : (Jvm.Cond.instanceMethod y).before a0 Z = true) (w5 : (Jvm.Cond.initialized y.cls).before a0 Z = true) (w6 : (Jvm.Cond.code y bytes maxL ret).before a0 Z = true)
    (hy : y.cls ≠ "java/lang/invoke/MethodHandle" ∧ y.cls ≠ "java/lang/invoke/VarHandle")
    {a : Addr} (hC : Con FrameEnd l Z y bytes maxL ret rm (.ref a :: argsL).toArray h Qc) (eT : T.heap = h) (EA : Exa Z h a C) (hf : rm.frames + 1 ≤ R.frames) (hl : W + (maxL + 11) + rm.locals ≤ R.locals) (hc : cells + rm.cells ≤ R.cells) (hs : slots + rm.slots ≤ R.slots)
    (hg : g.method = m) (hsize : g.locals.size = c.maxLocals) (hlen : ∀ sig, parseMethodDescriptor y.desc = some sig → argsL.length = sig.parameters.length) (hstack : g.stack = argsL.reverse ++ .ref a :: rest) (hW : 2 * g.monitorRoom + (rest.map fun v => v.category).sum ≤ W) (hdg : decode c.code g.pc = .ok (.invokevirtual index, 3)) :
    ∃ (v : Option Value) (T' : State) (L : List Loc), Stand p l e R s m args below meth c T' (locs ++ L) (cells + rm.cells) (slots + rm.slots) ∧ Qc v T'.heap L ∧ ∀ target, Steps p.tables e below (T'.setTop { g with pc := g.pc + 3, stack := v.toList ++ rest }) target → Steps p.tables e below (T.setTop g) target := by
  obtain ⟨cq, kq, qa, qb, qc⟩ := isOf hZ eT EA
  obtain ⟨v, _, ⟨T2, L2, k2, n2⟩, -, X2, ⟨Lc2, hQ2, l2, y2, z2⟩, st2⟩ := X.virtualBack hx hown (mvT hZ w1) (mvT hZ w2) (notFace_of_selects (args := #[]) (mvT hZ w3)) (mvT hZ w3) (mvT hZ w4) hy (backOf (W := W) hC hZ w6 w5 hf hl) qa qc hg hsize (Steps.refl _) hlen hstack hW hdg (fun _ _ => ⟨rfl, eT, hc, hs⟩)
  dsimp only [Pt.U, Pt.locs, Pt.cells, Pt.slots] at X2 l2 y2 z2 st2 hQ2
  subst l2 y2 z2
  exact ⟨v, T2, Lc2, X2, hQ2, fun _ k => st2.trans k⟩
theorem callVUt {C owner : String} (X : Stand p l e R s m args below meth c T locs cells slots) (hx : p.tables.exec = Jvm.exec) (hZ : Z.Warmed39 s.vm) (hown : s.vm.findClass own = some m.cls)
    (w1 : (Jvm.Cond.methodLink own index y).before a0 Z = true) (w1' : (Jvm.Cond.sameMethod y.cls owner y.name y.desc).before a0 Z = true) (w2 : (Jvm.Cond.declares ⟨owner, y.name, y.desc⟩).before a0 Z = true) (w3 : (Jvm.Cond.selects C y z).before a0 Z = true) (w4 : (Jvm.Cond.instanceMethod z).before a0 Z = true) (w5 : (Jvm.Cond.initialized z.cls).before a0 Z = true) (w6 : (Jvm.Cond.code z bytes maxL ret).before a0 Z = true)
    (hy : owner ≠ "java/lang/invoke/MethodHandle" ∧ owner ≠ "java/lang/invoke/VarHandle")
    {a : Addr} (hC : Con FrameEnd l Z z bytes maxL ret rm (.ref a :: argsL).toArray h Qc) (eT : T.heap = h) (EA : Exa Z h a C) (hf : rm.frames + 1 ≤ R.frames) (hl : W + (maxL + 11) + rm.locals ≤ R.locals) (hc : cells + rm.cells ≤ R.cells) (hs : slots + rm.slots ≤ R.slots)
    (hg : g.method = m) (hsize : g.locals.size = c.maxLocals) (hlen : ∀ sig, parseMethodDescriptor y.desc = some sig → argsL.length = sig.parameters.length) (hstack : g.stack = argsL.reverse ++ .ref a :: rest) (hW : 2 * g.monitorRoom + (rest.map fun v => v.category).sum ≤ W) (hdg : decode c.code g.pc = .ok (.invokevirtual index, 3)) :
    ∃ (v : Option Value) (T' : State) (L : List Loc), Stand p l e R s m args below meth c T' (locs ++ L) (cells + rm.cells) (slots + rm.slots) ∧ Qc v T'.heap L ∧ ∀ target, Steps p.tables e below (T'.setTop { g with pc := g.pc + 3, stack := v.toList ++ rest }) target → Steps p.tables e below (T.setTop g) target := by
  obtain ⟨cq, kq, qa, qb, qc⟩ := isOf hZ eT EA
  obtain ⟨v, _, ⟨T2, L2, k2, n2⟩, -, X2, ⟨Lc2, hQ2, l2, y2, z2⟩, st2⟩ := X.virtualBackUp hx hown (mvT hZ w1) (mvT hZ w1') (mvT hZ w2) hy (mvT hZ w3) (mvT hZ w4) (backOf (W := W) hC hZ w6 w5 hf hl) qa qc hg hsize (Steps.refl _) hlen hstack hW hdg (fun _ _ => ⟨rfl, eT, hc, hs⟩)
  dsimp only [Pt.U, Pt.locs, Pt.cells, Pt.slots] at X2 l2 y2 z2 st2 hQ2
  subst l2 y2 z2
  exact ⟨v, T2, Lc2, X2, hQ2, fun _ k => st2.trans k⟩
end Calls
end OwnKit
section OwnWide
variable {p : Program} {l : Launch} {e : Env} {R : Room} {s s' : State} {m : MethodId} {args : Array Value} {below : List Frame} {meth : Method} {c : Code} {T T' : State} {locs : List Loc} {cells slots : Nat} {g g' : JFrame} {Z : State} {a0 : Array Value} {h : Heap} {Q : Option Value → Heap → List Loc → Prop} {k n : Nat} {vm0 : Vm} {k0 : Nat} {EL : List (String × Nat)}
/-- the wide frame, with the invariant on the String constants -/
def EH (Z : State) (EL : List (String × Nat)) : State → Outcome → State → List Loc → Nat → Nat → Prop := fun s o t L k n => CHr Z EL s.vm s.heap t.vm t.heap ∧ ReturnedEndW s o t L k n
abbrev ConHW (l : Launch) (Z : State) (EL : List (String × Nat)) (ws : List Jvm.Cond) (y : MethodName) (bytes : ByteArray) (maxL : Nat) (ret : Option FieldType) (rm : Room) (as' : Array Value) (h : Heap) (Q : Option Value → Heap → List Loc → Prop) : Prop :=
  MetFree l y (head1 (Jvm.Cond.code y bytes maxL ret :: ws) rm) (fun a U => a = as' ∧ Z.Warmed39 U.vm ∧ U.heap = h ∧ CHv Z EL U.vm h) (fun _ _ _ _ _ => True) (fun _ U o U' => ∃ v L, o = .returned v ∧ Q v U'.heap L ∧ CHr Z EL U.vm U.heap U'.vm U'.heap ∧ ReturnedEndW U o U' L rm.cells rm.slots)
abbrev ConH (l : Launch) (Z : State) (EL : List (String × Nat)) (y : MethodName) (bytes : ByteArray) (maxL : Nat) (ret : Option FieldType) (rm : Room) (as' : Array Value) (h : Heap) (Q : Option Value → Heap → List Loc → Prop) : Prop := ConHW l Z EL [] y bytes maxL ret rm as' h Q
theorem conOfH {ws : List Jvm.Cond} {y : MethodName} {bytes : ByteArray} {maxL : Nat} {ret : Option FieldType} {rm : Room} {as' : Array Value} (hpn : plainFor y = true)
    (body : ∀ (p : Program) (e : Env) (s : State) (m : MethodId) (below : List Frame) (meth : Method) (c : Code) (s₁ : State), Stand p l e rm (s.setVm s.vm) m as' below meth c s₁ [] 0 0 → p.tables.exec = Jvm.exec → c.code = bytes → c.maxLocals = maxL → (s.setVm s.vm).vm.findClass y.cls = some m.cls → meth.name = y.name →
      meth.sig.returnType = ret → meth.locks = false → Z.Warmed39 (s.setVm s.vm).vm → s₁.heap = h → s.Since s.vm 0 → CHr Z EL s.vm s.heap s.vm h → Fin (EH Z EL) p e below s Q rm.cells rm.slots s₁ (entryFrame m as' maxL)) : ConHW l Z EL ws y bytes maxL ret rm as' h Q := by
  refine MetFree.of_bodySF hpn hisR ?_
  intro p e s m args below meth c s₁ Bd hml hP hK
  obtain ⟨rfl, hZ, rfl, hC⟩ := hP
  exact body p e s m below meth c s₁ (Stand.of_body Bd) Bd.exec Bd.bytes hml (findClass_of_methodNamed Bd.named) (name_of_methodNamed Bd.named Bd.method).1 Bd.returns (BodyLoose.notSynchronized Bd) hZ (by rw [Bd.state]; rfl) ((State.WarmedH.refl s).since 0) (CHr.refl hC)
theorem Fin.leaveH (X : Stand p l e R (s.setVm vm0) m args below meth c T locs cells slots) (hS : s.Since vm0 k0) (hk0 : k0 ≤ h.size) (hZ : Z.Warmed39 (s.setVm vm0).vm) (hEL : EW Z a0 EL) (eT : T.heap = h) (RR : CHr Z EL s.vm s.heap vm0 h) (hlk : meth.locks = false) {v : Option Value} (hv : meth.sig.returnType = none → v = none) (hk : cells ≤ k) (hn : slots ≤ n) (hq : Q v h locs)
    (st : ∀ fs, (∀ (f : JFrame) (acts : List Action), f.method = m → f.locked = none → f.entered = [] → (doReturn e (T.setTop f) acts v).1 = T.setFrames fs) → Steps p.tables e below (T.setTop g) (T.setFrames fs)) : Fin (EH Z EL) p e below s Q k n T g := by
  subst eT
  obtain ⟨fs, hr, hrun, hended, h1, h2, h3, h4⟩ := X.leaveW hS hk0 hv hlk
  exact ⟨_, _, st fs hr, hrun, hended, v, locs, rfl, hq, RR.trans (CHv.at X hZ hEL RR.1 : CHr Z EL vm0 T.heap T.vm T.heap), h1, h2, h3, h4.mono hk hn⟩
section CallsH
variable {own : String} {index : Nat} {y z : MethodName} {bytes : ByteArray} {maxL : Nat} {ret : Option FieldType} {rm : Room} {W : Nat} {Qc : Option Value → Heap → List Loc → Prop} {argsL rest : List Value}
theorem callStH (X : Stand p l e R (s.setVm vm0) m args below meth c T locs cells slots) (hx : p.tables.exec = Jvm.exec) (hZ : Z.Warmed39 (s.setVm vm0).vm) (hown : (s.setVm vm0).vm.findClass own = some m.cls)
    (w1 : (Jvm.Cond.methodLink own index y).before a0 Z = true) (w2 : (Jvm.Cond.static y).before a0 Z = true) (w3 : (Jvm.Cond.initialized y.cls).before a0 Z = true) (w4 : (Jvm.Cond.code y bytes maxL ret).before a0 Z = true) (hy : y.cls ≠ "java/lang/invoke/MethodHandle" ∧ y.cls ≠ "java/lang/invoke/VarHandle")
    (hC : ConH l Z EL y bytes maxL ret rm argsL.toArray h Qc) (eT : T.heap = h) (hS : s.Since vm0 k0) (hk : k0 ≤ h.size) (hEL : EW Z a0 EL) (H : CHv Z EL vm0 h) (hf : rm.frames + 1 ≤ R.frames) (hl : W + (maxL + 11) + rm.locals ≤ R.locals) (hc : cells + rm.cells ≤ R.cells) (hs : slots + rm.slots ≤ R.slots)
    (hg : g.method = m) (hsize : g.locals.size = c.maxLocals) (hlen : ∀ sig, parseMethodDescriptor y.desc = some sig → argsL.length = sig.parameters.length) (hstack : g.stack = argsL.reverse ++ rest) (hW : 2 * g.monitorRoom + (rest.map fun v => v.category).sum ≤ W) (hdg : decode c.code g.pc = .ok (.invokestatic index, 3)) :
    ∃ (v : Option Value) (T' : State) (L : List Loc), Stand p l e R (s.setVm T'.vm) m args below meth c T' (locs ++ L) (cells + rm.cells) (slots + rm.slots) ∧ s.Since T'.vm T'.heap.size ∧ Z.Warmed39 (s.setVm T'.vm).vm ∧ (s.setVm T'.vm).vm.findClass own = some m.cls ∧ CHr Z EL vm0 h T'.vm T'.heap ∧ Qc v T'.heap L ∧
      ∀ target, Steps p.tables e below (T'.setTop { g with pc := g.pc + 3, stack := v.toList ++ rest }) target → Steps p.tables e below (T.setTop g) target := by
  obtain ⟨v, _, ⟨T2, L2, k2, n2⟩, -, X2, hS2, hg2, ⟨Lc2, hQ2, l2, y2, z2, hC2⟩, st2⟩ := callSS X hx hown (mvT hZ w1) (mvT hZ w2) (mvT hZ w3) (mvT hZ w4) hy (backOfSH (W := W) hC hZ w4 w3 hf hl hEL H) hg hsize hlen hstack hW hdg (fun _ _ => ⟨rfl, eT, hc, hs⟩)
  dsimp only [Pt.U, Pt.locs, Pt.cells, Pt.slots] at X2 hS2 hg2 l2 y2 z2 st2 hQ2 hC2
  subst l2 y2 z2 eT
  obtain ⟨X3, hS3, hZ3, hown3⟩ := rebS hS hk X2 hS2 hg2 hZ hown
  exact ⟨v, T2, Lc2, X3, hS3, hZ3, hown3, hC2, hQ2, fun _ k => st2.trans k⟩
theorem callCtH (X : Stand p l e R (s.setVm vm0) m args below meth c T locs cells slots) (hx : p.tables.exec = Jvm.exec) (hZ : Z.Warmed39 (s.setVm vm0).vm) (hy1 : y.name = "<init>") (hown : (s.setVm vm0).vm.findClass own = some m.cls)
    (w1 : (Jvm.Cond.methodLink own index y).before a0 Z = true) (w2 : (Jvm.Cond.instanceMethod y).before a0 Z = true) (w3 : (Jvm.Cond.initialized y.cls).before a0 Z = true) (w4 : (Jvm.Cond.code y bytes maxL none).before a0 Z = true) (hy : y.cls ≠ "java/lang/invoke/MethodHandle" ∧ y.cls ≠ "java/lang/invoke/VarHandle")
    {a : Addr} (hC : ConH l Z EL y bytes maxL none rm (.ref a :: argsL).toArray h Qc) (eT : T.heap = h) (hS : s.Since vm0 k0) (hk : k0 ≤ h.size) (hEL : EW Z a0 EL) (H : CHv Z EL vm0 h) (hf : rm.frames + 1 ≤ R.frames) (hl : W + (maxL + 11) + rm.locals ≤ R.locals) (hc : cells + rm.cells ≤ R.cells) (hs : slots + rm.slots ≤ R.slots)
    (hg : g.method = m) (hsize : g.locals.size = c.maxLocals) (hlen : ∀ sig, parseMethodDescriptor y.desc = some sig → argsL.length = sig.parameters.length) (hstack : g.stack = argsL.reverse ++ .ref a :: rest) (hW : 2 * g.monitorRoom + (rest.map fun v => v.category).sum ≤ W) (hdg : decode c.code g.pc = .ok (.invokespecial index, 3)) :
    ∃ (v : Option Value) (T' : State) (L : List Loc), Stand p l e R (s.setVm T'.vm) m args below meth c T' (locs ++ L) (cells + rm.cells) (slots + rm.slots) ∧ s.Since T'.vm T'.heap.size ∧ Z.Warmed39 (s.setVm T'.vm).vm ∧ (s.setVm T'.vm).vm.findClass own = some m.cls ∧ CHr Z EL vm0 h T'.vm T'.heap ∧ Qc v T'.heap L ∧
      ∀ target, Steps p.tables e below (T'.setTop { g with pc := g.pc + 3, stack := v.toList ++ rest }) target → Steps p.tables e below (T.setTop g) target := by
  obtain ⟨v, _, ⟨T2, L2, k2, n2⟩, -, X2, hS2, hg2, ⟨Lc2, hQ2, l2, y2, z2, hC2⟩, st2⟩ := X.specialBackS hx hy1 hown (mvT hZ w1) (mvT hZ w2) (mvT hZ w4) hy (backOfSH (W := W) hC hZ w4 w3 hf hl hEL H) hg hsize (Steps.refl _) hlen hstack hW hdg (fun _ _ => ⟨rfl, eT, hc, hs⟩)
  dsimp only [Pt.U, Pt.locs, Pt.cells, Pt.slots] at X2 hS2 hg2 l2 y2 z2 st2 hQ2 hC2
  subst l2 y2 z2 eT
  obtain ⟨X3, hS3, hZ3, hown3⟩ := rebS hS hk X2 hS2 hg2 hZ hown
  exact ⟨v, T2, Lc2, X3, hS3, hZ3, hown3, hC2, hQ2, fun _ k => st2.trans k⟩
theorem callVtH {C : String} (X : Stand p l e R (s.setVm vm0) m args below meth c T locs cells slots) (hx : p.tables.exec = Jvm.exec) (hZ : Z.Warmed39 (s.setVm vm0).vm) (hown : (s.setVm vm0).vm.findClass own = some m.cls)
    (w1 : (Jvm.Cond.methodLink own index y).before a0 Z = true) (w2 : (Jvm.Cond.declares y).before a0 Z = true) (w3 : (Jvm.Cond.selects C y y).before a0 Z = true) (w4 : (Jvm.Cond.instanceMethod y).before a0 Z = true) (w5 : (Jvm.Cond.initialized y.cls).before a0 Z = true) (w6 : (Jvm.Cond.code y bytes maxL ret).before a0 Z = true)
    (hy : y.cls ≠ "java/lang/invoke/MethodHandle" ∧ y.cls ≠ "java/lang/invoke/VarHandle")
    {a : Addr} (hC : ConH l Z EL y bytes maxL ret rm (.ref a :: argsL).toArray h Qc) (eT : T.heap = h) (EA : Exa Z h a C) (hS : s.Since vm0 k0) (hk : k0 ≤ h.size) (hEL : EW Z a0 EL) (H : CHv Z EL vm0 h) (hf : rm.frames + 1 ≤ R.frames) (hl : W + (maxL + 11) + rm.locals ≤ R.locals) (hc : cells + rm.cells ≤ R.cells) (hs : slots + rm.slots ≤ R.slots)
    (hg : g.method = m) (hsize : g.locals.size = c.maxLocals) (hlen : ∀ sig, parseMethodDescriptor y.desc = some sig → argsL.length = sig.parameters.length) (hstack : g.stack = argsL.reverse ++ .ref a :: rest) (hW : 2 * g.monitorRoom + (rest.map fun v => v.category).sum ≤ W) (hdg : decode c.code g.pc = .ok (.invokevirtual index, 3)) :
    ∃ (v : Option Value) (T' : State) (L : List Loc), Stand p l e R (s.setVm T'.vm) m args below meth c T' (locs ++ L) (cells + rm.cells) (slots + rm.slots) ∧ s.Since T'.vm T'.heap.size ∧ Z.Warmed39 (s.setVm T'.vm).vm ∧ (s.setVm T'.vm).vm.findClass own = some m.cls ∧ CHr Z EL vm0 h T'.vm T'.heap ∧ Qc v T'.heap L ∧
      ∀ target, Steps p.tables e below (T'.setTop { g with pc := g.pc + 3, stack := v.toList ++ rest }) target → Steps p.tables e below (T.setTop g) target := by
  obtain ⟨cq, kq, qa, qb, qc⟩ := isOf hZ eT EA
  obtain ⟨v, _, ⟨T2, L2, k2, n2⟩, -, X2, hS2, hg2, ⟨Lc2, hQ2, l2, y2, z2, hC2⟩, st2⟩ := X.virtualBackS hx hown (mvT hZ w1) (mvT hZ w2) (notFace_of_selects (args := #[]) (mvT hZ w3)) (mvT hZ w3) (mvT hZ w4) hy (backOfSH (W := W) hC hZ w6 w5 hf hl hEL H) qa qc hg hsize (Steps.refl _) hlen hstack hW hdg (fun _ _ => ⟨rfl, eT, hc, hs⟩)
  dsimp only [Pt.U, Pt.locs, Pt.cells, Pt.slots] at X2 hS2 hg2 l2 y2 z2 st2 hQ2 hC2
  subst l2 y2 z2 eT
  obtain ⟨X3, hS3, hZ3, hown3⟩ := rebS hS hk X2 hS2 hg2 hZ hown
  exact ⟨v, T2, Lc2, X3, hS3, hZ3, hown3, hC2, hQ2, fun _ k => st2.trans k⟩
end CallsH
end OwnWide
theorem w_0 : (Jvm.Cond.fieldLink "com/example/kittiwake/kittiwake/core/signing/SignatureCheckWithDefaultsPinLaw" (7 : Nat) "com/example/kittiwake/kittiwake/core/signing/SignatureScheme" "GITHUB" "Lcom/example/kittiwake/kittiwake/core/signing/SignatureScheme;") ∈ tables_1 := List.mem_of_getElem? (i := 0) rfl
theorem w_1 : (Jvm.Cond.initialized "com/example/kittiwake/kittiwake/core/signing/SignatureScheme") ∈ tables_1 := List.mem_of_getElem? (i := 1) rfl
theorem w_2 : (Jvm.Cond.laysStatic "com/example/kittiwake/kittiwake/core/signing/SignatureScheme" "GITHUB" "Lcom/example/kittiwake/kittiwake/core/signing/SignatureScheme;") ∈ tables_1 := List.mem_of_getElem? (i := 2) rfl
theorem w_3 : (Jvm.Cond.constant "com/example/kittiwake/kittiwake/core/signing/SignatureCheckWithDefaultsPinLaw" (22 : Nat) (2147483647 : Int32)) ∈ tables_1 := List.mem_of_getElem? (i := 3) rfl
theorem w_4 : (Jvm.Cond.methodLink "com/example/kittiwake/kittiwake/core/signing/SignatureCheckWithDefaultsPinLaw" (23 : Nat) ({ cls := "java/lang/Integer", name := "valueOf", desc := "(I)Ljava/lang/Integer;" } : Jvm.MethodName)) ∈ tables_1 := List.mem_of_getElem? (i := 4) rfl
theorem w_5 : (Jvm.Cond.static ({ cls := "java/lang/Integer", name := "valueOf", desc := "(I)Ljava/lang/Integer;" } : Jvm.MethodName)) ∈ tables_1 := List.mem_of_getElem? (i := 5) rfl
theorem w_6 : (Jvm.Cond.initialized "java/lang/Integer") ∈ tables_1 := List.mem_of_getElem? (i := 6) rfl
theorem w_7 : (Jvm.Cond.code ({ cls := "java/lang/Integer", name := "valueOf", desc := "(I)Ljava/lang/Integer;" } : Jvm.MethodName) jdk_33_method_22_code (1 : Nat) (Option.some (Jvm.ClassFile.FieldType.object "java/lang/Integer"))) ∈ tables_1 := List.mem_of_getElem? (i := 7) rfl
theorem w_8 : (Jvm.Cond.fieldLink "java/lang/Integer" (191 : Nat) "java/lang/Integer$IntegerCache" "high" "I") ∈ tables_1 := List.mem_of_getElem? (i := 8) rfl
theorem w_9 : (Jvm.Cond.initialized "java/lang/Integer$IntegerCache") ∈ tables_1 := List.mem_of_getElem? (i := 9) rfl
theorem w_10 : (Jvm.Cond.fieldLink "java/lang/Integer" (195 : Nat) "java/lang/Integer$IntegerCache" "cache" "[Ljava/lang/Integer;") ∈ tables_1 := List.mem_of_getElem? (i := 10) rfl
theorem w_11 : (Jvm.Cond.methodLink "com/example/kittiwake/kittiwake/core/signing/SignatureCheckWithDefaultsPinLaw" (29 : Nat) ({ cls := "com/example/kittiwake/kittiwake/core/signing/SignatureCheck", name := "withDefaults", desc := "(Lcom/example/kittiwake/kittiwake/core/signing/SignatureScheme;Ljava/lang/Integer;)Lcom/example/kittiwake/kittiwake/core/signing/SignatureCheck;" } : Jvm.MethodName)) ∈ tables_1 := List.mem_of_getElem? (i := 11) rfl
theorem w_12 : (Jvm.Cond.static ({ cls := "com/example/kittiwake/kittiwake/core/signing/SignatureCheck", name := "withDefaults", desc := "(Lcom/example/kittiwake/kittiwake/core/signing/SignatureScheme;Ljava/lang/Integer;)Lcom/example/kittiwake/kittiwake/core/signing/SignatureCheck;" } : Jvm.MethodName)) ∈ tables_1 := List.mem_of_getElem? (i := 12) rfl
theorem w_13 : (Jvm.Cond.initialized "com/example/kittiwake/kittiwake/core/signing/SignatureCheck") ∈ tables_1 := List.mem_of_getElem? (i := 13) rfl
theorem w_14 : (Jvm.Cond.code ({ cls := "com/example/kittiwake/kittiwake/core/signing/SignatureCheck", name := "withDefaults", desc := "(Lcom/example/kittiwake/kittiwake/core/signing/SignatureScheme;Ljava/lang/Integer;)Lcom/example/kittiwake/kittiwake/core/signing/SignatureCheck;" } : Jvm.MethodName) prog_15_method_2_code (2 : Nat) (Option.some (Jvm.ClassFile.FieldType.object "com/example/kittiwake/kittiwake/core/signing/SignatureCheck"))) ∈ tables_1 := List.mem_of_getElem? (i := 14) rfl
theorem w_15 : (Jvm.Cond.classLink "com/example/kittiwake/kittiwake/core/signing/SignatureCheck" (15 : Nat) "com/example/kittiwake/kittiwake/core/signing/SignatureCheck") ∈ tables_1 := List.mem_of_getElem? (i := 15) rfl
theorem w_16 : (Jvm.Cond.instantiable "com/example/kittiwake/kittiwake/core/signing/SignatureCheck" (2 : Nat)) ∈ tables_1 := List.mem_of_getElem? (i := 16) rfl
theorem w_17 : (Jvm.Cond.methodLink "com/example/kittiwake/kittiwake/core/signing/SignatureCheck" (31 : Nat) ({ cls := "java/lang/Integer", name := "intValue", desc := "()I" } : Jvm.MethodName)) ∈ tables_1 := List.mem_of_getElem? (i := 17) rfl
theorem w_18 : (Jvm.Cond.declares ({ cls := "java/lang/Integer", name := "intValue", desc := "()I" } : Jvm.MethodName)) ∈ tables_1 := List.mem_of_getElem? (i := 18) rfl
theorem w_19 : (Jvm.Cond.instanceMethod ({ cls := "java/lang/Integer", name := "intValue", desc := "()I" } : Jvm.MethodName)) ∈ tables_1 := List.mem_of_getElem? (i := 19) rfl
theorem w_20 : (Jvm.Cond.selects "java/lang/Integer" ({ cls := "java/lang/Integer", name := "intValue", desc := "()I" } : Jvm.MethodName) ({ cls := "java/lang/Integer", name := "intValue", desc := "()I" } : Jvm.MethodName)) ∈ tables_1 := List.mem_of_getElem? (i := 20) rfl
theorem w_21 : (Jvm.Cond.code ({ cls := "java/lang/Integer", name := "intValue", desc := "()I" } : Jvm.MethodName) jdk_33_method_27_code (1 : Nat) (Option.some Jvm.ClassFile.FieldType.int)) ∈ tables_1 := List.mem_of_getElem? (i := 21) rfl
theorem w_22 : (Jvm.Cond.fieldLink "java/lang/Integer" (205 : Nat) "java/lang/Integer" "value" "I") ∈ tables_1 := List.mem_of_getElem? (i := 22) rfl
theorem w_23 : (Jvm.Cond.laysFinal "java/lang/Integer" "java/lang/Integer" "value" "I") ∈ tables_1 := List.mem_of_getElem? (i := 23) rfl
theorem w_24 : (Jvm.Cond.methodLink "com/example/kittiwake/kittiwake/core/signing/SignatureCheck" (37 : Nat) ({ cls := "com/example/kittiwake/kittiwake/core/signing/SignatureCheck", name := "<init>", desc := "(Lcom/example/kittiwake/kittiwake/core/signing/SignatureScheme;I)V" } : Jvm.MethodName)) ∈ tables_1 := List.mem_of_getElem? (i := 24) rfl
theorem w_25 : (Jvm.Cond.instanceMethod ({ cls := "com/example/kittiwake/kittiwake/core/signing/SignatureCheck", name := "<init>", desc := "(Lcom/example/kittiwake/kittiwake/core/signing/SignatureScheme;I)V" } : Jvm.MethodName)) ∈ tables_1 := List.mem_of_getElem? (i := 25) rfl
theorem w_26 : (Jvm.Cond.code ({ cls := "com/example/kittiwake/kittiwake/core/signing/SignatureCheck", name := "<init>", desc := "(Lcom/example/kittiwake/kittiwake/core/signing/SignatureScheme;I)V" } : Jvm.MethodName) prog_15_method_1_code (3 : Nat) (Option.none : Option Jvm.ClassFile.FieldType)) ∈ tables_1 := List.mem_of_getElem? (i := 26) rfl
theorem w_27 : (Jvm.Cond.methodLink "com/example/kittiwake/kittiwake/core/signing/SignatureCheck" (1 : Nat) ({ cls := "java/lang/Record", name := "<init>", desc := "()V" } : Jvm.MethodName)) ∈ tables_1 := List.mem_of_getElem? (i := 27) rfl
theorem w_28 : (Jvm.Cond.instanceMethod ({ cls := "java/lang/Record", name := "<init>", desc := "()V" } : Jvm.MethodName)) ∈ tables_1 := List.mem_of_getElem? (i := 28) rfl
theorem w_30 : (Jvm.Cond.initialized "java/lang/Record") ∈ tables_1 := List.mem_of_getElem? (i := 30) rfl
theorem w_31 : (Jvm.Cond.code ({ cls := "java/lang/Record", name := "<init>", desc := "()V" } : Jvm.MethodName) jdk_30_method_1_code (1 : Nat) (Option.none : Option Jvm.ClassFile.FieldType)) ∈ tables_1 := List.mem_of_getElem? (i := 31) rfl
theorem w_32 : (Jvm.Cond.methodLink "java/lang/Record" (1 : Nat) ({ cls := "java/lang/Object", name := "<init>", desc := "()V" } : Jvm.MethodName)) ∈ tables_1 := List.mem_of_getElem? (i := 32) rfl
theorem w_33 : (Jvm.Cond.instanceMethod ({ cls := "java/lang/Object", name := "<init>", desc := "()V" } : Jvm.MethodName)) ∈ tables_1 := List.mem_of_getElem? (i := 33) rfl
theorem w_34 : (Jvm.Cond.code ({ cls := "java/lang/Object", name := "<init>", desc := "()V" } : Jvm.MethodName) object_method_1_code (1 : Nat) (Option.none : Option Jvm.ClassFile.FieldType)) ∈ tables_1 := List.mem_of_getElem? (i := 34) rfl
theorem w_35 : (Jvm.Cond.stringLink "com/example/kittiwake/kittiwake/core/signing/SignatureCheck" (7 : Nat) "scheme") ∈ tables_1 := List.mem_of_getElem? (i := 35) rfl
theorem w_43 : (Jvm.Cond.methodLink "com/example/kittiwake/kittiwake/core/signing/SignatureCheck" (9 : Nat) ({ cls := "java/util/Objects", name := "requireNonNull", desc := "(Ljava/lang/Object;Ljava/lang/String;)Ljava/lang/Object;" } : Jvm.MethodName)) ∈ tables_1 := List.mem_of_getElem? (i := 43) rfl
theorem w_44 : (Jvm.Cond.static ({ cls := "java/util/Objects", name := "requireNonNull", desc := "(Ljava/lang/Object;Ljava/lang/String;)Ljava/lang/Object;" } : Jvm.MethodName)) ∈ tables_1 := List.mem_of_getElem? (i := 44) rfl
theorem w_45 : (Jvm.Cond.initialized "java/util/Objects") ∈ tables_1 := List.mem_of_getElem? (i := 45) rfl
theorem w_46 : (Jvm.Cond.code ({ cls := "java/util/Objects", name := "requireNonNull", desc := "(Ljava/lang/Object;Ljava/lang/String;)Ljava/lang/Object;" } : Jvm.MethodName) jdk_31_method_11_code (2 : Nat) (Option.some (Jvm.ClassFile.FieldType.object "java/lang/Object"))) ∈ tables_1 := List.mem_of_getElem? (i := 46) rfl
theorem w_47 : (Jvm.Cond.fieldLink "com/example/kittiwake/kittiwake/core/signing/SignatureCheck" (24 : Nat) "com/example/kittiwake/kittiwake/core/signing/SignatureCheck" "scheme" "Lcom/example/kittiwake/kittiwake/core/signing/SignatureScheme;") ∈ tables_1 := List.mem_of_getElem? (i := 47) rfl
theorem w_48 : (Jvm.Cond.laysFinal "com/example/kittiwake/kittiwake/core/signing/SignatureCheck" "com/example/kittiwake/kittiwake/core/signing/SignatureCheck" "scheme" "Lcom/example/kittiwake/kittiwake/core/signing/SignatureScheme;") ∈ tables_1 := List.mem_of_getElem? (i := 48) rfl
theorem w_49 : (Jvm.Cond.fieldLink "com/example/kittiwake/kittiwake/core/signing/SignatureCheck" (27 : Nat) "com/example/kittiwake/kittiwake/core/signing/SignatureCheck" "toleranceSeconds" "I") ∈ tables_1 := List.mem_of_getElem? (i := 49) rfl
theorem w_50 : (Jvm.Cond.laysFinal "com/example/kittiwake/kittiwake/core/signing/SignatureCheck" "com/example/kittiwake/kittiwake/core/signing/SignatureCheck" "toleranceSeconds" "I") ∈ tables_1 := List.mem_of_getElem? (i := 50) rfl
theorem w_51 : (Jvm.Cond.methodLink "com/example/kittiwake/kittiwake/core/signing/SignatureCheckWithDefaultsPinLaw" (35 : Nat) ({ cls := "com/example/kittiwake/kittiwake/core/signing/SignatureCheck", name := "scheme", desc := "()Lcom/example/kittiwake/kittiwake/core/signing/SignatureScheme;" } : Jvm.MethodName)) ∈ tables_1 := List.mem_of_getElem? (i := 51) rfl
theorem w_52 : (Jvm.Cond.declares ({ cls := "com/example/kittiwake/kittiwake/core/signing/SignatureCheck", name := "scheme", desc := "()Lcom/example/kittiwake/kittiwake/core/signing/SignatureScheme;" } : Jvm.MethodName)) ∈ tables_1 := List.mem_of_getElem? (i := 52) rfl
theorem w_53 : (Jvm.Cond.instanceMethod ({ cls := "com/example/kittiwake/kittiwake/core/signing/SignatureCheck", name := "scheme", desc := "()Lcom/example/kittiwake/kittiwake/core/signing/SignatureScheme;" } : Jvm.MethodName)) ∈ tables_1 := List.mem_of_getElem? (i := 53) rfl
theorem w_54 : (Jvm.Cond.selects "com/example/kittiwake/kittiwake/core/signing/SignatureCheck" ({ cls := "com/example/kittiwake/kittiwake/core/signing/SignatureCheck", name := "scheme", desc := "()Lcom/example/kittiwake/kittiwake/core/signing/SignatureScheme;" } : Jvm.MethodName) ({ cls := "com/example/kittiwake/kittiwake/core/signing/SignatureCheck", name := "scheme", desc := "()Lcom/example/kittiwake/kittiwake/core/signing/SignatureScheme;" } : Jvm.MethodName)) ∈ tables_1 := List.mem_of_getElem? (i := 54) rfl
theorem w_55 : (Jvm.Cond.code ({ cls := "com/example/kittiwake/kittiwake/core/signing/SignatureCheck", name := "scheme", desc := "()Lcom/example/kittiwake/kittiwake/core/signing/SignatureScheme;" } : Jvm.MethodName) prog_15_method_6_code (1 : Nat) (Option.some (Jvm.ClassFile.FieldType.object "com/example/kittiwake/kittiwake/core/signing/SignatureScheme"))) ∈ tables_1 := List.mem_of_getElem? (i := 55) rfl
theorem w_56 : (Jvm.Cond.methodLink "com/example/kittiwake/kittiwake/core/signing/SignatureCheckWithDefaultsPinLaw" (39 : Nat) ({ cls := "com/example/kittiwake/kittiwake/core/signing/SignatureCheck", name := "toleranceSeconds", desc := "()I" } : Jvm.MethodName)) ∈ tables_1 := List.mem_of_getElem? (i := 56) rfl
theorem w_57 : (Jvm.Cond.declares ({ cls := "com/example/kittiwake/kittiwake/core/signing/SignatureCheck", name := "toleranceSeconds", desc := "()I" } : Jvm.MethodName)) ∈ tables_1 := List.mem_of_getElem? (i := 57) rfl
theorem w_58 : (Jvm.Cond.instanceMethod ({ cls := "com/example/kittiwake/kittiwake/core/signing/SignatureCheck", name := "toleranceSeconds", desc := "()I" } : Jvm.MethodName)) ∈ tables_1 := List.mem_of_getElem? (i := 58) rfl
theorem w_59 : (Jvm.Cond.selects "com/example/kittiwake/kittiwake/core/signing/SignatureCheck" ({ cls := "com/example/kittiwake/kittiwake/core/signing/SignatureCheck", name := "toleranceSeconds", desc := "()I" } : Jvm.MethodName) ({ cls := "com/example/kittiwake/kittiwake/core/signing/SignatureCheck", name := "toleranceSeconds", desc := "()I" } : Jvm.MethodName)) ∈ tables_1 := List.mem_of_getElem? (i := 59) rfl
theorem w_60 : (Jvm.Cond.code ({ cls := "com/example/kittiwake/kittiwake/core/signing/SignatureCheck", name := "toleranceSeconds", desc := "()I" } : Jvm.MethodName) prog_15_method_7_code (1 : Nat) (Option.some Jvm.ClassFile.FieldType.int)) ∈ tables_1 := List.mem_of_getElem? (i := 60) rfl
theorem w_61 : (Jvm.Cond.fieldLink "com/example/kittiwake/kittiwake/core/signing/SignatureCheckWithDefaultsPinLaw" (13 : Nat) "com/example/kittiwake/kittiwake/core/signing/SignatureScheme" "STRIPE" "Lcom/example/kittiwake/kittiwake/core/signing/SignatureScheme;") ∈ tables_1 := List.mem_of_getElem? (i := 61) rfl
theorem w_62 : (Jvm.Cond.laysStatic "com/example/kittiwake/kittiwake/core/signing/SignatureScheme" "STRIPE" "Lcom/example/kittiwake/kittiwake/core/signing/SignatureScheme;") ∈ tables_1 := List.mem_of_getElem? (i := 62) rfl
theorem w_63 : (Jvm.Cond.fieldLink "com/example/kittiwake/kittiwake/core/signing/SignatureCheckWithDefaultsPinLaw" (19 : Nat) "com/example/kittiwake/kittiwake/core/signing/SignatureScheme" "STANDARD" "Lcom/example/kittiwake/kittiwake/core/signing/SignatureScheme;") ∈ tables_1 := List.mem_of_getElem? (i := 63) rfl
theorem w_64 : (Jvm.Cond.laysStatic "com/example/kittiwake/kittiwake/core/signing/SignatureScheme" "STANDARD" "Lcom/example/kittiwake/kittiwake/core/signing/SignatureScheme;") ∈ tables_1 := List.mem_of_getElem? (i := 64) rfl
theorem w_65 : (Jvm.Cond.fieldLink "com/example/kittiwake/kittiwake/core/signing/SignatureCheckWithDefaultsPinLaw" (16 : Nat) "com/example/kittiwake/kittiwake/core/signing/SignatureScheme" "SHOPIFY" "Lcom/example/kittiwake/kittiwake/core/signing/SignatureScheme;") ∈ tables_1 := List.mem_of_getElem? (i := 65) rfl
theorem w_66 : (Jvm.Cond.laysStatic "com/example/kittiwake/kittiwake/core/signing/SignatureScheme" "SHOPIFY" "Lcom/example/kittiwake/kittiwake/core/signing/SignatureScheme;") ∈ tables_1 := List.mem_of_getElem? (i := 66) rfl
theorem w_67 : (Jvm.Cond.classLink "java/lang/Integer" (1 : Nat) "java/lang/Integer") ∈ tables_1 := List.mem_of_getElem? (i := 67) rfl
theorem w_68 : (Jvm.Cond.instantiable "java/lang/Integer" (1 : Nat)) ∈ tables_1 := List.mem_of_getElem? (i := 68) rfl
theorem w_69 : (Jvm.Cond.methodLink "java/lang/Integer" (199 : Nat) ({ cls := "java/lang/Integer", name := "<init>", desc := "(I)V" } : Jvm.MethodName)) ∈ tables_1 := List.mem_of_getElem? (i := 69) rfl
theorem w_70 : (Jvm.Cond.instanceMethod ({ cls := "java/lang/Integer", name := "<init>", desc := "(I)V" } : Jvm.MethodName)) ∈ tables_1 := List.mem_of_getElem? (i := 70) rfl
theorem w_72 : (Jvm.Cond.code ({ cls := "java/lang/Integer", name := "<init>", desc := "(I)V" } : Jvm.MethodName) jdk_33_method_23_code (2 : Nat) (Option.none : Option Jvm.ClassFile.FieldType)) ∈ tables_1 := List.mem_of_getElem? (i := 72) rfl
theorem w_73 : (Jvm.Cond.methodLink "java/lang/Integer" (202 : Nat) ({ cls := "java/lang/Number", name := "<init>", desc := "()V" } : Jvm.MethodName)) ∈ tables_1 := List.mem_of_getElem? (i := 73) rfl
theorem w_74 : (Jvm.Cond.instanceMethod ({ cls := "java/lang/Number", name := "<init>", desc := "()V" } : Jvm.MethodName)) ∈ tables_1 := List.mem_of_getElem? (i := 74) rfl
theorem w_77 : (Jvm.Cond.initialized "java/lang/Number") ∈ tables_1 := List.mem_of_getElem? (i := 77) rfl
theorem w_78 : (Jvm.Cond.code ({ cls := "java/lang/Number", name := "<init>", desc := "()V" } : Jvm.MethodName) jdk_18_method_1_code (1 : Nat) (Option.none : Option Jvm.ClassFile.FieldType)) ∈ tables_1 := List.mem_of_getElem? (i := 78) rfl
theorem w_79 : (Jvm.Cond.methodLink "java/lang/Number" (1 : Nat) ({ cls := "java/lang/Object", name := "<init>", desc := "()V" } : Jvm.MethodName)) ∈ tables_1 := List.mem_of_getElem? (i := 79) rfl
theorem pn_java_lang_Number : plainName "java/lang/Number" = true := by first | (simp [plainName, overriddenIn]; done) | decide +kernel
theorem d11_0 : decode jdk_18_method_1_code 0 = .ok (.aload_n 0, 1) := by decide +kernel
theorem d11_1 : decode jdk_18_method_1_code 1 = .ok (.invokespecial 1, 3) := by decide +kernel
theorem d11_4 : decode jdk_18_method_1_code 4 = .ok (.return_, 1) := by decide +kernel
theorem pn_java_lang_Integer : plainName "java/lang/Integer" = true := by first | (simp [plainName, overriddenIn]; done) | decide +kernel
theorem d10_0 : decode jdk_33_method_23_code 0 = .ok (.aload_n 0, 1) := by decide +kernel
theorem d10_1 : decode jdk_33_method_23_code 1 = .ok (.invokespecial 202, 3) := by decide +kernel
theorem pd_ocV : parseMethodDescriptor "()V" = some ⟨[], none⟩ := by decide +kernel
theorem d10_4 : decode jdk_33_method_23_code 4 = .ok (.aload_n 0, 1) := by decide +kernel
theorem d10_5 : decode jdk_33_method_23_code 5 = .ok (.iload_n 1, 1) := by decide +kernel
theorem d10_6 : decode jdk_33_method_23_code 6 = .ok (.putfield 205, 3) := by decide +kernel
theorem d10_9 : decode jdk_33_method_23_code 9 = .ok (.return_, 1) := by decide +kernel
theorem d3_0 : decode jdk_33_method_27_code 0 = .ok (.aload_n 0, 1) := by decide +kernel
theorem d3_1 : decode jdk_33_method_27_code 1 = .ok (.getfield 205, 3) := by decide +kernel
theorem d3_4 : decode jdk_33_method_27_code 4 = .ok (.ireturn, 1) := by decide +kernel
theorem d1_0 : decode jdk_33_method_22_code 0 = .ok (.iload_n 0, 1) := by decide +kernel
theorem d1_1 : decode jdk_33_method_22_code 1 = .ok (.bipush (-128), 2) := by decide +kernel
theorem d1_3 : decode jdk_33_method_22_code 3 = .ok (.if_icmp .lt 20, 3) := by decide +kernel
theorem d1_23 : decode jdk_33_method_22_code 23 = .ok (.new 1, 3) := by decide +kernel
theorem d1_26 : decode jdk_33_method_22_code 26 = .ok (.dup, 1) := by decide +kernel
theorem d1_27 : decode jdk_33_method_22_code 27 = .ok (.iload_n 0, 1) := by decide +kernel
theorem d1_28 : decode jdk_33_method_22_code 28 = .ok (.invokespecial 199, 3) := by decide +kernel
theorem pd_oIcV : parseMethodDescriptor "(I)V" = some ⟨[.int], none⟩ := by decide +kernel
theorem d1_31 : decode jdk_33_method_22_code 31 = .ok (.areturn, 1) := by decide +kernel
theorem d1_6 : decode jdk_33_method_22_code 6 = .ok (.iload_n 0, 1) := by decide +kernel
theorem d1_7 : decode jdk_33_method_22_code 7 = .ok (.getstatic 191, 3) := by decide +kernel
theorem d1_10 : decode jdk_33_method_22_code 10 = .ok (.if_icmp .gt 13, 3) := by decide +kernel
theorem d1_13 : decode jdk_33_method_22_code 13 = .ok (.getstatic 195, 3) := by decide +kernel
theorem d1_16 : decode jdk_33_method_22_code 16 = .ok (.iload_n 0, 1) := by decide +kernel
theorem d1_17 : decode jdk_33_method_22_code 17 = .ok (.sipush 128, 3) := by decide +kernel
theorem d1_20 : decode jdk_33_method_22_code 20 = .ok (.iadd, 1) := by decide +kernel
theorem d1_21 : decode jdk_33_method_22_code 21 = .ok (.aaload, 1) := by decide +kernel
theorem d1_22 : decode jdk_33_method_22_code 22 = .ok (.areturn, 1) := by decide +kernel
theorem pn_java_lang_Record : plainName "java/lang/Record" = true := by first | (simp [plainName, overriddenIn]; done) | decide +kernel
theorem d5_0 : decode jdk_30_method_1_code 0 = .ok (.aload_n 0, 1) := by decide +kernel
theorem d5_1 : decode jdk_30_method_1_code 1 = .ok (.invokespecial 1, 3) := by decide +kernel
theorem d5_4 : decode jdk_30_method_1_code 4 = .ok (.return_, 1) := by decide +kernel
theorem pn_java_util_Objects : plainName "java/util/Objects" = true := by first | (simp [plainName, overriddenIn]; done) | decide +kernel
theorem d7_0 : decode jdk_31_method_11_code 0 = .ok (.aload_n 0, 1) := by decide +kernel
theorem d7_1 : decode jdk_31_method_11_code 1 = .ok (.ifnonnull 12, 3) := by decide +kernel
theorem d7_13 : decode jdk_31_method_11_code 13 = .ok (.aload_n 0, 1) := by decide +kernel
theorem d7_14 : decode jdk_31_method_11_code 14 = .ok (.areturn, 1) := by decide +kernel
theorem pn_com_example_kittiwake_kittiwake_core_signing_SignatureCheck : plainName "com/example/kittiwake/kittiwake/core/signing/SignatureCheck" = true := by first | (simp [plainName, overriddenIn]; done) | decide +kernel
theorem d4_0 : decode prog_15_method_1_code 0 = .ok (.aload_n 0, 1) := by decide +kernel
theorem d4_1 : decode prog_15_method_1_code 1 = .ok (.invokespecial 1, 3) := by decide +kernel
theorem d4_4 : decode prog_15_method_1_code 4 = .ok (.aload_n 1, 1) := by decide +kernel
theorem d4_5 : decode prog_15_method_1_code 5 = .ok (.ldc 7, 2) := by decide +kernel
theorem d4_7 : decode prog_15_method_1_code 7 = .ok (.invokestatic 9, 3) := by decide +kernel
theorem pd_oLjava_lang_Object_Ljava_lang_String_cLjava_lang_Object_ : parseMethodDescriptor "(Ljava/lang/Object;Ljava/lang/String;)Ljava/lang/Object;" = some ⟨[(.object "java/lang/Object"), (.object "java/lang/String")], some (.object "java/lang/Object")⟩ := by decide +kernel
theorem d4_10 : decode prog_15_method_1_code 10 = .ok (.pop, 1) := by decide +kernel
theorem d4_11 : decode prog_15_method_1_code 11 = .ok (.iload_n 2, 1) := by decide +kernel
theorem d4_12 : decode prog_15_method_1_code 12 = .ok (.iconst 1, 1) := by decide +kernel
theorem d4_13 : decode prog_15_method_1_code 13 = .ok (.if_icmp .lt 10, 3) := by decide +kernel
theorem d4_16 : decode prog_15_method_1_code 16 = .ok (.iload_n 2, 1) := by decide +kernel
theorem d4_17 : decode prog_15_method_1_code 17 = .ok (.sipush 3600, 3) := by decide +kernel
theorem d4_20 : decode prog_15_method_1_code 20 = .ok (.if_icmp .le 13, 3) := by decide +kernel
theorem d4_33 : decode prog_15_method_1_code 33 = .ok (.aload_n 0, 1) := by decide +kernel
theorem d4_34 : decode prog_15_method_1_code 34 = .ok (.aload_n 1, 1) := by decide +kernel
theorem d4_35 : decode prog_15_method_1_code 35 = .ok (.putfield 24, 3) := by decide +kernel
theorem d4_38 : decode prog_15_method_1_code 38 = .ok (.aload_n 0, 1) := by decide +kernel
theorem d4_39 : decode prog_15_method_1_code 39 = .ok (.iload_n 2, 1) := by decide +kernel
theorem d4_40 : decode prog_15_method_1_code 40 = .ok (.putfield 27, 3) := by decide +kernel
theorem d4_43 : decode prog_15_method_1_code 43 = .ok (.return_, 1) := by decide +kernel
theorem d2_0 : decode prog_15_method_2_code 0 = .ok (.new 15, 3) := by decide +kernel
theorem d2_3 : decode prog_15_method_2_code 3 = .ok (.dup, 1) := by decide +kernel
theorem d2_4 : decode prog_15_method_2_code 4 = .ok (.aload_n 0, 1) := by decide +kernel
theorem d2_5 : decode prog_15_method_2_code 5 = .ok (.aload_n 1, 1) := by decide +kernel
theorem d2_6 : decode prog_15_method_2_code 6 = .ok (.ifnonnull 9, 3) := by decide +kernel
theorem d2_15 : decode prog_15_method_2_code 15 = .ok (.aload_n 1, 1) := by decide +kernel
theorem d2_16 : decode prog_15_method_2_code 16 = .ok (.invokevirtual 31, 3) := by decide +kernel
theorem pd_ocI : parseMethodDescriptor "()I" = some ⟨[], some .int⟩ := by decide +kernel
theorem d2_19 : decode prog_15_method_2_code 19 = .ok (.invokespecial 37, 3) := by decide +kernel
theorem pd_oLcom_example_kittiwake_kittiwake_core_signing_SignatureScheme_IcV : parseMethodDescriptor "(Lcom/example/kittiwake/kittiwake/core/signing/SignatureScheme;I)V" = some ⟨[(.object "com/example/kittiwake/kittiwake/core/signing/SignatureScheme"), .int], none⟩ := by decide +kernel
theorem d2_22 : decode prog_15_method_2_code 22 = .ok (.areturn, 1) := by decide +kernel
theorem d2_9 : decode prog_15_method_2_code 9 = .ok (.sipush 300, 3) := by decide +kernel
theorem d2_12 : decode prog_15_method_2_code 12 = .ok (.goto 7, 3) := by decide +kernel
theorem d8_0 : decode prog_15_method_6_code 0 = .ok (.aload_n 0, 1) := by decide +kernel
theorem d8_1 : decode prog_15_method_6_code 1 = .ok (.getfield 24, 3) := by decide +kernel
theorem d8_4 : decode prog_15_method_6_code 4 = .ok (.areturn, 1) := by decide +kernel
theorem d9_0 : decode prog_15_method_7_code 0 = .ok (.aload_n 0, 1) := by decide +kernel
theorem d9_1 : decode prog_15_method_7_code 1 = .ok (.getfield 27, 3) := by decide +kernel
theorem d9_4 : decode prog_15_method_7_code 4 = .ok (.ireturn, 1) := by decide +kernel
theorem pn_com_example_kittiwake_kittiwake_core_signing_SignatureCheckWithDefaultsPinLaw : plainName "com/example/kittiwake/kittiwake/core/signing/SignatureCheckWithDefaultsPinLaw" = true := by first | (simp [plainName, overriddenIn]; done) | decide +kernel
theorem pd_oIcLjava_lang_Integer_ : parseMethodDescriptor "(I)Ljava/lang/Integer;" = some ⟨[.int], some (.object "java/lang/Integer")⟩ := by decide +kernel
theorem pd_oLcom_example_kittiwake_kittiwake_core_signing_SignatureScheme_Ljava_lang_Integer_cLcom_example_kittiwake_kittiwake_core_signing_SignatureCheck_ : parseMethodDescriptor "(Lcom/example/kittiwake/kittiwake/core/signing/SignatureScheme;Ljava/lang/Integer;)Lcom/example/kittiwake/kittiwake/core/signing/SignatureCheck;" = some ⟨[(.object "com/example/kittiwake/kittiwake/core/signing/SignatureScheme"), (.object "java/lang/Integer")], some (.object "com/example/kittiwake/kittiwake/core/signing/SignatureCheck")⟩ := by decide +kernel
theorem pd_ocLcom_example_kittiwake_kittiwake_core_signing_SignatureScheme_ : parseMethodDescriptor "()Lcom/example/kittiwake/kittiwake/core/signing/SignatureScheme;" = some ⟨[], some (.object "com/example/kittiwake/kittiwake/core/signing/SignatureScheme")⟩ := by decide +kernel
abbrev EL : List (String × Nat) := []
theorem strW {Z : State} {a0 : Array Value} (hw : ∀ d ∈ tables_1, d.before a0 Z = true) : ∀ a ∈ Bundle.stringAtoms, a.before a0 Z = true := fun d hd => hw d ((by decide +kernel : ∀ d ∈ Bundle.stringAtoms, d ∈ tables_1) d hd)
theorem elW {Z : State} {a0 : Array Value} (hw : ∀ d ∈ tables_1, d.before a0 Z = true) : EW Z a0 EL := EW.nil
theorem tb (x : Int32) : ¬ ((1 : Int32) + ((x &&& (2147483647 : Int32)) % (3600 : Int32))) < 1 ∧ ¬ 3600 < ((1 : Int32) + ((x &&& (2147483647 : Int32)) % (3600 : Int32))) := by
  have h1 := c_mask x 2147483647 31 (by decide) (by decide)
  have h2 := (c_irem (x &&& 2147483647) 3600 3600 rfl).1
  have h3 := c_iadd 1 ((x &&& 2147483647) % 3600)
  have h4 := rng32 ((1 : Int32) + ((x &&& 2147483647) % 3600))
  have h5 : (1 : Int32).toInt = 1 := rfl
  have h6 : (3600 : Int32).toInt = 3600 := rfl
  simp only [Int32.lt_iff_toInt_lt, h5, h6]
  omega
theorem rt128 (c : Int32) : c + 128 - 128 = c := by
  apply Int32.toInt_inj.mp
  have h1 := c_isub (c + 128) 128; have h2 := c_iadd c 128; have h3 := rng32 c; have h4 := rng32 (c + 128 - 128)
  have h5 : (128 : Int32).toInt = 128 := rfl
  omega
theorem in256 {c : Int32} {n : Nat} (h1 : ¬ c < -128) (h2 : ¬ 127 < c) (hn : n = (256 : Int32).toNatClampNeg) : ¬ ((c + 128) < 0 ∨ n ≤ (c + 128).toNatClampNeg) := by
  subst hn
  rw [Int32.lt_iff_toInt_lt] at h1 h2
  have h2' := c_iadd c 128; have h3 := rng32 c; have h4 := rng32 (c + 128)
  have h5 : (128 : Int32).toInt = 128 := rfl
  have h6 : (-128 : Int32).toInt = -128 := rfl
  have h7 : (127 : Int32).toInt = 127 := rfl
  have h8 : (0 : Int32).toInt = 0 := rfl
  have h9 : (256 : Int32).toNatClampNeg = 256 := rfl
  have h10 : (c + 128).toNatClampNeg = (c + 128).toInt.toNat := rfl
  rw [Int32.lt_iff_toInt_lt, h8, h9, h10]
  omega
theorem lenOfEval {t : Term} {args : Array Value} {s : State} {a : Addr} {c : Cell} {n : Int32} (ev : t.eval args s none [] s = some (.ref a)) (ha : s.arrayAt? a = some c) (h : (Term.length t).eval args s none [] s = some (.int n)) : c.slots.size < 2 ^ 31 ∧ c.slots.size.toInt32 = n := by
  obtain ⟨x, cell, e1, e2, e3⟩ := Term.length_spec h
  cases ev.symm.trans e1
  cases ha.symm.trans e2
  by_cases q : c.slots.size < 2 ^ 31
  · exact ⟨q, Value.int.inj (Option.some.inj ((len_f ev ha q).symm.trans h))⟩
  · simp [Term.eval, ev, ha, q] at h
theorem subIdx {args : Array Value} {s : State} {j : Int32} (hj : ¬ j < 0) : (Term.sub (.index 0) (.int 128)).eval args s none [j.toNatClampNeg] s = some (.int (j - 128)) := by
  simp [Term.eval, (back32 hj).1]
set_option maxRecDepth 65536 in
set_option maxHeartbeats 40000000 in
theorem rmNum (l : Launch) (Z : State) (a0 : Array Value) (hw : ∀ d ∈ tables_1, d.before a0 Z = true) (n0 : Nat) (h0 : Heap) (O : Old Z n0 h0) (a : Addr) :
    ConW FrameEnd l Z [] (⟨"java/lang/Number", "<init>", "()V"⟩ : MethodName) jdk_18_method_1_code 1 none ({ frames := 1, cells := 0, slots := 0, locals := 12 } : Room) #[(.ref a)] h0 (Pure h0 none) := by
  refine conOf (plainFor_of_name pn_java_lang_Number) ?_
  intro p e s m below mth cc s₁ X0 hx hby hml hown hnm hret hlk hZ e0
  have N0 := Fr.nil n0
  refine Fin.came (castTop (t := _) (by first | (simp [entryFrame, mkF, argsToLocals, Value.category]; done) | rfl) (Steps.refl _) : Steps p.tables e below (s₁.setTop (entryFrame m #[(.ref a)] 1)) (s₁.setTop (mkF m 0 #[.val (.ref a)] []))) ?_
  show Fin _ p e below s _ _ _ s₁ (mkF m 0 #[.val (.ref a)] [])
  refine Fin.go (fun _ k => XS.aloadN X0.here hx rfl (hb hby d11_0) rfl rfl k) ?_
  show Fin _ p e below s _ _ _ s₁ (mkF m 1 #[.val (.ref a)] [(.ref a)])
  obtain ⟨T1, X1, e1, st1⟩ := initO X0 hx hZ hown (hw _ w_79) (hw _ w_33) (hw _ w_34) e0 (g := (mkF m 1 #[.val (.ref a)] [(.ref a)])) rfl (by rw [hml]; rfl) rfl (hb hby d11_1) (by decide) (W := 0) (by show 2 * 0 + _ ≤ _; exact Nat.le_of_eq rfl) (by decide)
  refine Fin.go st1 ?_
  show Fin _ p e below s _ _ _ T1 (mkF m 4 #[.val (.ref a)] [])
  exact Fin.leaveN X1 e1 hlk (v := none) (fun _ => rfl) (by decide) (by decide) ⟨rfl, rfl, rfl⟩ (fun fs hr => X1.returnOut hx hret (hb hby d11_4) hr)
set_option maxRecDepth 65536 in
set_option maxHeartbeats 40000000 in
theorem rmInit (l : Launch) (Z : State) (a0 : Array Value) (hw : ∀ d ∈ tables_1, d.before a0 Z = true) (n0 : Nat) (h0 : Heap) (O : Old Z n0 h0) (a : Addr) (c : Int32) (F : Fld Z h0 a "java/lang/Integer" "value" "I" (.int (0 : Int32))) (A : Exa Z h0 a "java/lang/Integer") (na : n0 ≤ a) :
    ConW FrameEnd l Z [] (⟨"java/lang/Integer", "<init>", "(I)V"⟩ : MethodName) jdk_33_method_23_code 2 none ({ frames := 2, cells := 0, slots := 0, locals := 24 } : Room) #[(.ref a), (.int c)] h0 (fun v h L => v = none ∧ Fr n0 L ∧ Keep h0 h [a] ∧ Exa Z h a "java/lang/Integer" ∧ Fld Z h a "java/lang/Integer" "value" "I" (.int c)) := by
  refine conOf (plainFor_of_name pn_java_lang_Integer) ?_
  intro p e s m below mth cc s₁ X0 hx hby hml hown hnm hret hlk hZ e0
  have N0 := Fr.nil n0
  have K0 := Keep.refl h0 ([a] : List Addr)
  refine Fin.came (castTop (t := _) (by first | (simp [entryFrame, mkF, argsToLocals, Value.category]; done) | rfl) (Steps.refl _) : Steps p.tables e below (s₁.setTop (entryFrame m #[(.ref a), (.int c)] 2)) (s₁.setTop (mkF m 0 #[.val (.ref a), .val (.int c)] []))) ?_
  show Fin _ p e below s _ _ _ s₁ (mkF m 0 #[.val (.ref a), .val (.int c)] [])
  refine Fin.go (fun _ k => XS.aloadN X0.here hx rfl (hb hby d10_0) rfl rfl k) ?_
  show Fin _ p e below s _ _ _ s₁ (mkF m 1 #[.val (.ref a), .val (.int c)] [(.ref a)])
  obtain ⟨v1, T1, L1, X1, q1, st1⟩ := callCt X0 hx hZ (y := (⟨"java/lang/Number", "<init>", "()V"⟩ : MethodName)) rfl hown (hw _ w_73) (hw _ w_74) (hw _ w_77) (hw _ w_78) (by decide) (W := 0) (rmNum l Z a0 hw n0 h0 O a) e0 (by decide) (by decide) (by decide) (by decide) (g := (mkF m 1 #[.val (.ref a), .val (.int c)] [(.ref a)])) rfl (by rw [hml]; rfl) (a := a) (argsL := []) (rest := []) (lenOf pd_ocV rfl) rfl (by show 2 * 0 + _ ≤ _; exact Nat.le_of_eq rfl) (hb hby d10_1)
  obtain ⟨rfl, e1, rfl⟩ := q1
  have N1 := Fr.app N0 (Fr.nil n0)
  refine Fin.go st1 ?_
  show Fin _ p e below s _ _ _ T1 (mkF m 4 #[.val (.ref a), .val (.int c)] [])
  refine Fin.go (fun _ k => XS.aloadN X1.here hx rfl (hb hby d10_4) rfl rfl k) ?_
  show Fin _ p e below s _ _ _ T1 (mkF m 5 #[.val (.ref a), .val (.int c)] [(.ref a)])
  refine Fin.go (fun _ k => XS.iloadN X1.here hx rfl (hb hby d10_5) rfl k) ?_
  show Fin _ p e below s _ _ _ T1 (mkF m 6 #[.val (.ref a), .val (.int c)] [(.int c), (.ref a)])
  obtain ⟨T2, h2, X2, e2, W2, st2⟩ := putF X1 hx hZ hown (host := "") (Or.inl (hw _ w_22)) Via.refl e1 F A (Or.inr ⟨(hw _ w_23), rfl, hnm⟩) (hw _ w_68) (ty := .int) (by decide) rfl rfl (g := (mkF m 6 #[.val (.ref a), .val (.int c)] [(.int c), (.ref a)])) rfl rfl (hb hby d10_6)
  refine Fin.go st2 ?_
  have N2 := Fr.snoc X2 N1 na
  have O2 := O.wr W2 na
  have K2 := K0.wr W2 (Or.inl (List.mem_of_getElem? (i := 0) rfl))
  show Fin _ p e below s _ _ _ T2 (mkF m 9 #[.val (.ref a), .val (.int c)] [])
  exact Fin.leaveN X2 e2 hlk (v := none) (fun _ => rfl) (by decide) (by decide) ⟨rfl, N2, K2, (A.wr W2), (F.same W2)⟩ (fun fs hr => X2.returnOut hx hret (hb hby d10_9) hr)
set_option maxRecDepth 65536 in
set_option maxHeartbeats 40000000 in
theorem rmIV (l : Launch) (Z : State) (a0 : Array Value) (hw : ∀ d ∈ tables_1, d.before a0 Z = true) (n0 : Nat) (h0 : Heap) (O : Old Z n0 h0) (a : Addr) (c : Int32) (F : Fld Z h0 a "java/lang/Integer" "value" "I" (.int c)) :
    ConW FrameEnd l Z [] (⟨"java/lang/Integer", "intValue", "()I"⟩ : MethodName) jdk_33_method_27_code 1 (some .int) ({ frames := 0, cells := 0, slots := 0, locals := 0 } : Room) #[(.ref a)] h0 (Pure h0 (some (.int c))) := by
  refine conOf (plainFor_of_name pn_java_lang_Integer) ?_
  intro p e s m below mth cc s₁ X0 hx hby hml hown hnm hret hlk hZ e0
  have N0 := Fr.nil n0
  refine Fin.came (castTop (t := _) (by first | (simp [entryFrame, mkF, argsToLocals, Value.category]; done) | rfl) (Steps.refl _) : Steps p.tables e below (s₁.setTop (entryFrame m #[(.ref a)] 1)) (s₁.setTop (mkF m 0 #[.val (.ref a)] []))) ?_
  show Fin _ p e below s _ _ _ s₁ (mkF m 0 #[.val (.ref a)] [])
  refine Fin.go (fun _ k => XS.aloadN X0.here hx rfl (hb hby d3_0) rfl rfl k) ?_
  show Fin _ p e below s _ _ _ s₁ (mkF m 1 #[.val (.ref a)] [(.ref a)])
  obtain ⟨T1, X1, e1, st1⟩ := getF X0 hx hZ hown (host := "") (Or.inl (hw _ w_22)) Via.refl e0 F (g := (mkF m 1 #[.val (.ref a)] [(.ref a)])) rfl rfl (hb hby d3_1)
  refine Fin.go st1 ?_
  show Fin _ p e below s _ _ _ T1 (mkF m 4 #[.val (.ref a)] [(.int c)])
  exact Fin.leaveN X1 e1 hlk (v := some (.int c)) (fun h => by rw [hret] at h; cases h) (by decide) (by decide) ⟨rfl, rfl, rfl⟩ (fun fs hr => retI X1 hx hret (hb hby d3_4) hr)
set_option maxRecDepth 65536 in
set_option maxHeartbeats 40000000 in
theorem rmVal (l : Launch) (Z : State) (a0 : Array Value) (hw : ∀ d ∈ tables_1, d.before a0 Z = true) (n0 : Nat) (h0 : Heap) (O : Old Z n0 h0) (c : Int32) (S_hi : Sta Z Z.heap "java/lang/Integer$IntegerCache" "high" "I" (.int 127)) (aK : Addr) (cK : Cell) (S_ca : Sta Z Z.heap "java/lang/Integer$IntegerCache" "cache" "[Ljava/lang/Integer;" (.ref aK)) (B : Bxs Z aK cK "java/lang/Integer" "I" 256 fun j => .int (j - 128)) :
    ConW FrameEnd l Z [] (⟨"java/lang/Integer", "valueOf", "(I)Ljava/lang/Integer;"⟩ : MethodName) jdk_33_method_22_code 1 (some (.object "java/lang/Integer")) ({ frames := 3, cells := 1, slots := 1, locals := 38 } : Room) #[(.int c)] h0 (fun v h L => ∃ b, v = some (.ref b) ∧ Fr n0 L ∧ Keep h0 h [] ∧ Exa Z h b "java/lang/Integer" ∧ Fld Z h b "java/lang/Integer" "value" "I" (.int c)) := by
  refine conOf (plainFor_of_name pn_java_lang_Integer) ?_
  intro p e s m below mth cc s₁ X0 hx hby hml hown hnm hret hlk hZ e0
  have N0 := Fr.nil n0
  have K0 := Keep.refl h0 ([] : List Addr)
  refine Fin.came (castTop (t := _) (by first | (simp [entryFrame, mkF, argsToLocals, Value.category]; done) | rfl) (Steps.refl _) : Steps p.tables e below (s₁.setTop (entryFrame m #[(.int c)] 1)) (s₁.setTop (mkF m 0 #[.val (.int c)] []))) ?_
  show Fin _ p e below s _ _ _ s₁ (mkF m 0 #[.val (.int c)] [])
  refine Fin.go (fun _ k => XS.iloadN X0.here hx rfl (hb hby d1_0) rfl k) ?_
  show Fin _ p e below s _ _ _ s₁ (mkF m 1 #[.val (.int c)] [(.int c)])
  refine Fin.go (fun _ k => XS.bipush X0.here hx rfl (hb hby d1_1) k) ?_
  show Fin _ p e below s _ _ _ s₁ (mkF m 3 #[.val (.int c)] [(.int (-128 : Int32)), (.int c)])
  by_cases c3 : c < (-128 : Int32)
  · refine Fin.go (fun _ k => XS.icmpYes X0.here hx rfl (pc0 := 3) (pc' := 23) rfl (hb hby d1_3) rfl (XT.ii_lt_t c3) (by decide) (by decide) k) ?_
    show Fin _ p e below s _ _ _ s₁ (mkF m 23 #[.val (.int c)] [])
    obtain ⟨T1, h1, X1, e1, E1, A1, D1, U1, st1⟩ := newO X0 hx hZ hown (hw _ w_67) (hw _ w_68) (hw _ w_6) e0 (g := (mkF m 23 #[.val (.int c)] [])) rfl (hb hby d1_23) (by decide) (by decide)
    obtain ⟨a1, g1⟩ : ∃ z, z = h0.size := ⟨_, rfl⟩
    rw [← g1] at A1 D1 U1 st1
    refine Fin.go st1 ?_
    have O1 := O.ext E1
    have K1 := K0.ext E1
    have n1 : n0 ≤ a1 := by have := O.2.1; have := O.1; omega
    have z1 : h0.size ≤ a1 := by have := K0.1; omega
    have F1_value : Fld Z h1 a1 "java/lang/Integer" "value" "I" (.int (0 : Int32)) := D1 (Or.inr (hw _ w_23)) (ty := .int) (by decide)
    show Fin _ p e below s _ _ _ T1 (mkF m 26 #[.val (.int c)] [(.ref a1)])
    refine Fin.go (fun _ k => XS.dup X1.here hx rfl (hb hby d1_26) rfl rfl k) ?_
    show Fin _ p e below s _ _ _ T1 (mkF m 27 #[.val (.int c)] [(.ref a1), (.ref a1)])
    refine Fin.go (fun _ k => XS.iloadN X1.here hx rfl (hb hby d1_27) rfl k) ?_
    show Fin _ p e below s _ _ _ T1 (mkF m 28 #[.val (.int c)] [(.int c), (.ref a1), (.ref a1)])
    obtain ⟨v2, T2, L2, X2, q2, st2⟩ := callCt X1 hx hZ (y := (⟨"java/lang/Integer", "<init>", "(I)V"⟩ : MethodName)) rfl hown (hw _ w_69) (hw _ w_70) (hw _ w_6) (hw _ w_72) (by decide) (W := 1) (rmInit l Z a0 hw n0 h1 O1 a1 c F1_value A1 n1) e1 (by decide) (by decide) (by decide) (by decide) (g := (mkF m 28 #[.val (.int c)] [(.int c), (.ref a1), (.ref a1)])) rfl (by rw [hml]; rfl) (a := a1) (argsL := [(.int c)]) (rest := [(.ref a1)]) (lenOf pd_oIcV rfl) rfl (by show 2 * 0 + _ ≤ _; exact Nat.le_of_eq rfl) (hb hby d1_28)
    obtain ⟨rfl, Nq2, Kq2, A2, F2⟩ := q2
    have N2 := Fr.app N0 Nq2
    have O2 := O1.keep Kq2 (allS n1 all0)
    have K2 := K1.trans Kq2 (allS (Or.inr z1) all0)
    refine Fin.go st2 ?_
    show Fin _ p e below s _ _ _ T2 (mkF m 31 #[.val (.int c)] [(.ref a1)])
    exact Fin.leaveN X2 (rfl : T2.heap = T2.heap) hlk (v := some (.ref a1)) (fun h => by rw [hret] at h; cases h) (by decide) (by decide) ⟨a1, rfl, N2, K2, A2, F2⟩ (fun fs hr => retOut X2 hx hret rfl (Or.inr (Or.inr (Or.inr (Or.inr ⟨rfl, rfl, rfl⟩)))) (hb hby d1_31) hr)
  · refine Fin.go (fun _ k => XS.icmpNo X0.here hx rfl (hb hby d1_3) rfl (XT.ii_lt_f c3) k) ?_
    show Fin _ p e below s _ _ _ s₁ (mkF m 6 #[.val (.int c)] [])
    refine Fin.go (fun _ k => XS.iloadN X0.here hx rfl (hb hby d1_6) rfl k) ?_
    show Fin _ p e below s _ _ _ s₁ (mkF m 7 #[.val (.int c)] [(.int c)])
    obtain ⟨T3, X3, e3, st3⟩ := getS2 X0 hx hZ hown (host := "") (Or.inl (hw _ w_8)) Via.refl e0 (S_hi.ext O.2) (g := (mkF m 7 #[.val (.int c)] [(.int c)])) rfl (hb hby d1_7)
    refine Fin.go st3 ?_
    show Fin _ p e below s _ _ _ T3 (mkF m 10 #[.val (.int c)] [(.int (127 : Int32)), (.int c)])
    by_cases c10 : (127 : Int32) < c
    · refine Fin.go (fun _ k => XS.icmpYes X3.here hx rfl (pc0 := 10) (pc' := 23) rfl (hb hby d1_10) rfl (XT.ii_gt_t c10) (by decide) (by decide) k) ?_
      show Fin _ p e below s _ _ _ T3 (mkF m 23 #[.val (.int c)] [])
      obtain ⟨T4, h4, X4, e4, E4, A4, D4, U4, st4⟩ := newO X3 hx hZ hown (hw _ w_67) (hw _ w_68) (hw _ w_6) e3 (g := (mkF m 23 #[.val (.int c)] [])) rfl (hb hby d1_23) (by decide) (by decide)
      obtain ⟨a4, g4⟩ : ∃ z, z = h0.size := ⟨_, rfl⟩
      rw [← g4] at A4 D4 U4 st4
      refine Fin.go st4 ?_
      have O4 := O.ext E4
      have K4 := K0.ext E4
      have n4 : n0 ≤ a4 := by have := O.2.1; have := O.1; omega
      have z4 : h0.size ≤ a4 := by have := K0.1; omega
      have F4_value : Fld Z h4 a4 "java/lang/Integer" "value" "I" (.int (0 : Int32)) := D4 (Or.inr (hw _ w_23)) (ty := .int) (by decide)
      show Fin _ p e below s _ _ _ T4 (mkF m 26 #[.val (.int c)] [(.ref a4)])
      refine Fin.go (fun _ k => XS.dup X4.here hx rfl (hb hby d1_26) rfl rfl k) ?_
      show Fin _ p e below s _ _ _ T4 (mkF m 27 #[.val (.int c)] [(.ref a4), (.ref a4)])
      refine Fin.go (fun _ k => XS.iloadN X4.here hx rfl (hb hby d1_27) rfl k) ?_
      show Fin _ p e below s _ _ _ T4 (mkF m 28 #[.val (.int c)] [(.int c), (.ref a4), (.ref a4)])
      obtain ⟨v5, T5, L5, X5, q5, st5⟩ := callCt X4 hx hZ (y := (⟨"java/lang/Integer", "<init>", "(I)V"⟩ : MethodName)) rfl hown (hw _ w_69) (hw _ w_70) (hw _ w_6) (hw _ w_72) (by decide) (W := 1) (rmInit l Z a0 hw n0 h4 O4 a4 c F4_value A4 n4) e4 (by decide) (by decide) (by decide) (by decide) (g := (mkF m 28 #[.val (.int c)] [(.int c), (.ref a4), (.ref a4)])) rfl (by rw [hml]; rfl) (a := a4) (argsL := [(.int c)]) (rest := [(.ref a4)]) (lenOf pd_oIcV rfl) rfl (by show 2 * 0 + _ ≤ _; exact Nat.le_of_eq rfl) (hb hby d1_28)
      obtain ⟨rfl, Nq5, Kq5, A5, F5⟩ := q5
      have N5 := Fr.app N0 Nq5
      have O5 := O4.keep Kq5 (allS n4 all0)
      have K5 := K4.trans Kq5 (allS (Or.inr z4) all0)
      refine Fin.go st5 ?_
      show Fin _ p e below s _ _ _ T5 (mkF m 31 #[.val (.int c)] [(.ref a4)])
      exact Fin.leaveN X5 (rfl : T5.heap = T5.heap) hlk (v := some (.ref a4)) (fun h => by rw [hret] at h; cases h) (by decide) (by decide) ⟨a4, rfl, N5, K5, A5, F5⟩ (fun fs hr => retOut X5 hx hret rfl (Or.inr (Or.inr (Or.inr (Or.inr ⟨rfl, rfl, rfl⟩)))) (hb hby d1_31) hr)
    · refine Fin.go (fun _ k => XS.icmpNo X3.here hx rfl (hb hby d1_10) rfl (XT.ii_gt_f c10) k) ?_
      show Fin _ p e below s _ _ _ T3 (mkF m 13 #[.val (.int c)] [])
      obtain ⟨T6, X6, e6, st6⟩ := getS2 X3 hx hZ hown (host := "") (Or.inl (hw _ w_10)) Via.refl e3 (S_ca.ext O.2) (g := (mkF m 13 #[.val (.int c)] [])) rfl (hb hby d1_13)
      refine Fin.go st6 ?_
      show Fin _ p e below s _ _ _ T6 (mkF m 16 #[.val (.int c)] [(.ref aK)])
      refine Fin.go (fun _ k => XS.iloadN X6.here hx rfl (hb hby d1_16) rfl k) ?_
      show Fin _ p e below s _ _ _ T6 (mkF m 17 #[.val (.int c)] [(.int c), (.ref aK)])
      refine Fin.go (fun _ k => XS.sipush X6.here hx rfl (hb hby d1_17) k) ?_
      show Fin _ p e below s _ _ _ T6 (mkF m 20 #[.val (.int c)] [(.int (128 : Int32)), (.int c), (.ref aK)])
      refine Fin.go (fun _ k => XS.iadd X6.here hx rfl (hb hby d1_20) rfl k) ?_
      show Fin _ p e below s _ _ _ T6 (mkF m 21 #[.val (.int c)] [(.int (c + (128 : Int32))), (.ref aK)])
      have hin := in256 c3 c10 B.2.1
      obtain ⟨b, hb1, hb2, hb3⟩ := B.2.2.2 _ hin
      simp only [rt128] at hb3
      refine Fin.go (fun _ k => X6.aaload hx (j := (c + (128 : Int32))) (v := .ref b) (by rw [e6]; exact (B.1.ext O.2).1) (State.isArrayOf_alike hZ.alike B.1.2.1) rfl B.1.2.2 hin hb1 (g := (mkF m 21 #[.val (.int c)] [(.int (c + (128 : Int32))), (.ref aK)])) rfl rfl (hb hby d1_21) _ k) ?_
      show Fin _ p e below s _ _ _ T6 (mkF m 22 #[.val (.int c)] [(.ref b)])
      exact Fin.leaveN X6 e6 hlk (v := some (.ref b)) (fun h => by rw [hret] at h; cases h) (by decide) (by decide) ⟨b, rfl, N0, K0, (hb2.ext O.2), (hb3.ext O.2)⟩ (fun fs hr => retOut X6 hx hret rfl (Or.inr (Or.inr (Or.inr (Or.inr ⟨rfl, rfl, rfl⟩)))) (hb hby d1_22) hr)
set_option maxRecDepth 65536 in
set_option maxHeartbeats 40000000 in
theorem rmRec (l : Launch) (Z : State) (a0 : Array Value) (hw : ∀ d ∈ tables_1, d.before a0 Z = true) (n0 : Nat) (h0 : Heap) (O : Old Z n0 h0) (a : Addr) :
    ConW FrameEnd l Z [] (⟨"java/lang/Record", "<init>", "()V"⟩ : MethodName) jdk_30_method_1_code 1 none ({ frames := 1, cells := 0, slots := 0, locals := 12 } : Room) #[(.ref a)] h0 (Pure h0 none) := by
  refine conOf (plainFor_of_name pn_java_lang_Record) ?_
  intro p e s m below mth cc s₁ X0 hx hby hml hown hnm hret hlk hZ e0
  have N0 := Fr.nil n0
  refine Fin.came (castTop (t := _) (by first | (simp [entryFrame, mkF, argsToLocals, Value.category]; done) | rfl) (Steps.refl _) : Steps p.tables e below (s₁.setTop (entryFrame m #[(.ref a)] 1)) (s₁.setTop (mkF m 0 #[.val (.ref a)] []))) ?_
  show Fin _ p e below s _ _ _ s₁ (mkF m 0 #[.val (.ref a)] [])
  refine Fin.go (fun _ k => XS.aloadN X0.here hx rfl (hb hby d5_0) rfl rfl k) ?_
  show Fin _ p e below s _ _ _ s₁ (mkF m 1 #[.val (.ref a)] [(.ref a)])
  obtain ⟨T1, X1, e1, st1⟩ := initO X0 hx hZ hown (hw _ w_32) (hw _ w_33) (hw _ w_34) e0 (g := (mkF m 1 #[.val (.ref a)] [(.ref a)])) rfl (by rw [hml]; rfl) rfl (hb hby d5_1) (by decide) (W := 0) (by show 2 * 0 + _ ≤ _; exact Nat.le_of_eq rfl) (by decide)
  refine Fin.go st1 ?_
  show Fin _ p e below s _ _ _ T1 (mkF m 4 #[.val (.ref a)] [])
  exact Fin.leaveN X1 e1 hlk (v := none) (fun _ => rfl) (by decide) (by decide) ⟨rfl, rfl, rfl⟩ (fun fs hr => X1.returnOut hx hret (hb hby d5_4) hr)
set_option maxRecDepth 65536 in
set_option maxHeartbeats 40000000 in
theorem rmRNN (l : Launch) (Z : State) (a0 : Array Value) (hw : ∀ d ∈ tables_1, d.before a0 Z = true) (n0 : Nat) (h0 : Heap) (O : Old Z n0 h0) (a b : Addr) :
    ConW FrameEnd l Z [] (⟨"java/util/Objects", "requireNonNull", "(Ljava/lang/Object;Ljava/lang/String;)Ljava/lang/Object;"⟩ : MethodName) jdk_31_method_11_code 2 (some (.object "java/lang/Object")) ({ frames := 0, cells := 0, slots := 0, locals := 0 } : Room) #[(.ref a), (.ref b)] h0 (Pure h0 (some (.ref a))) := by
  refine conOf (plainFor_of_name pn_java_util_Objects) ?_
  intro p e s m below mth cc s₁ X0 hx hby hml hown hnm hret hlk hZ e0
  have N0 := Fr.nil n0
  refine Fin.came (castTop (t := _) (by first | (simp [entryFrame, mkF, argsToLocals, Value.category]; done) | rfl) (Steps.refl _) : Steps p.tables e below (s₁.setTop (entryFrame m #[(.ref a), (.ref b)] 2)) (s₁.setTop (mkF m 0 #[.val (.ref a), .val (.ref b)] []))) ?_
  show Fin _ p e below s _ _ _ s₁ (mkF m 0 #[.val (.ref a), .val (.ref b)] [])
  refine Fin.go (fun _ k => XS.aloadN X0.here hx rfl (hb hby d7_0) rfl rfl k) ?_
  show Fin _ p e below s _ _ _ s₁ (mkF m 1 #[.val (.ref a), .val (.ref b)] [(.ref a)])
  refine Fin.go (fun _ k => XT.ifnonnullYes X0.here hx rfl (pc0 := 1) (pc' := 13) rfl (hb hby d7_1) rfl (by decide) (by decide) k) ?_
  show Fin _ p e below s _ _ _ s₁ (mkF m 13 #[.val (.ref a), .val (.ref b)] [])
  refine Fin.go (fun _ k => XS.aloadN X0.here hx rfl (hb hby d7_13) rfl rfl k) ?_
  show Fin _ p e below s _ _ _ s₁ (mkF m 14 #[.val (.ref a), .val (.ref b)] [(.ref a)])
  exact Fin.leaveN X0 e0 hlk (v := some (.ref a)) (fun h => by rw [hret] at h; cases h) (by decide) (by decide) ⟨rfl, rfl, rfl⟩ (fun fs hr => retOut X0 hx hret rfl (Or.inr (Or.inr (Or.inr (Or.inr ⟨rfl, rfl, rfl⟩)))) (hb hby d7_14) hr)
set_option maxRecDepth 65536 in
set_option maxHeartbeats 40000000 in
theorem rmSC (l : Launch) (Z : State) (a0 : Array Value) (hw : ∀ d ∈ tables_1, d.before a0 Z = true) (n0 : Nat) (h0 : Heap) (O : Old Z n0 h0) (a sc : Addr) (t : Int32) (ht1 : ¬ t < 1) (ht2 : ¬ 3600 < t) (A : Exa Z h0 a "com/example/kittiwake/kittiwake/core/signing/SignatureCheck") (F1 : Fld Z h0 a "com/example/kittiwake/kittiwake/core/signing/SignatureCheck" "scheme" "Lcom/example/kittiwake/kittiwake/core/signing/SignatureScheme;" .null) (F2 : Fld Z h0 a "com/example/kittiwake/kittiwake/core/signing/SignatureCheck" "toleranceSeconds" "I" (.int (0 : Int32))) (na : n0 ≤ a) :
    ConHW l Z EL [] (⟨"com/example/kittiwake/kittiwake/core/signing/SignatureCheck", "<init>", "(Lcom/example/kittiwake/kittiwake/core/signing/SignatureScheme;I)V"⟩ : MethodName) prog_15_method_1_code 3 none ({ frames := 2, cells := 2, slots := 28, locals := 24 } : Room) #[(.ref a), (.ref sc), (.int t)] h0 (fun v h L => v = none ∧ Fr n0 L ∧ Keep h0 h [a] ∧ Exa Z h a "com/example/kittiwake/kittiwake/core/signing/SignatureCheck" ∧ Fld Z h a "com/example/kittiwake/kittiwake/core/signing/SignatureCheck" "scheme" "Lcom/example/kittiwake/kittiwake/core/signing/SignatureScheme;" (.ref sc) ∧ Fld Z h a "com/example/kittiwake/kittiwake/core/signing/SignatureCheck" "toleranceSeconds" "I" (.int t)) := by
  refine conOfH (plainFor_of_name pn_com_example_kittiwake_kittiwake_core_signing_SignatureCheck) ?_
  intro p e s m below mth cc s₁ X0 hx hby hml hown hnm hret hlk hZ e0 hS RR0
  have N0 := Fr.nil n0
  have hEL := elW hw
  have K0 := Keep.refl h0 ([a] : List Addr)
  refine Fin.came (castTop (t := _) (by first | (simp [entryFrame, mkF, argsToLocals, Value.category]; done) | rfl) (Steps.refl _) : Steps p.tables e below (s₁.setTop (entryFrame m #[(.ref a), (.ref sc), (.int t)] 3)) (s₁.setTop (mkF m 0 #[.val (.ref a), .val (.ref sc), .val (.int t)] []))) ?_
  show Fin _ p e below s _ _ _ s₁ (mkF m 0 #[.val (.ref a), .val (.ref sc), .val (.int t)] [])
  refine Fin.go (fun _ k => XS.aloadN X0.here hx rfl (hb hby d4_0) rfl rfl k) ?_
  show Fin _ p e below s _ _ _ s₁ (mkF m 1 #[.val (.ref a), .val (.ref sc), .val (.int t)] [(.ref a)])
  obtain ⟨v1, T1, L1, X1, q1, st1⟩ := callCt X0 hx hZ (y := (⟨"java/lang/Record", "<init>", "()V"⟩ : MethodName)) rfl hown (hw _ w_27) (hw _ w_28) (hw _ w_30) (hw _ w_31) (by decide) (W := 0) (rmRec l Z a0 hw n0 h0 O a) e0 (by decide) (by decide) (by decide) (by decide) (g := (mkF m 1 #[.val (.ref a), .val (.ref sc), .val (.int t)] [(.ref a)])) rfl (by rw [hml]; rfl) (a := a) (argsL := []) (rest := []) (lenOf pd_ocV rfl) rfl (by show 2 * 0 + _ ≤ _; exact Nat.le_of_eq rfl) (hb hby d4_1)
  obtain ⟨rfl, e1, rfl⟩ := q1
  have N1 := Fr.app N0 (Fr.nil n0)
  refine Fin.go st1 ?_
  show Fin _ p e below s _ _ _ T1 (mkF m 4 #[.val (.ref a), .val (.ref sc), .val (.int t)] [])
  refine Fin.go (fun _ k => XS.aloadN X1.here hx rfl (hb hby d4_4) rfl rfl k) ?_
  show Fin _ p e below s _ _ _ T1 (mkF m 5 #[.val (.ref a), .val (.ref sc), .val (.int t)] [(.ref sc)])
  obtain ⟨a2, T2, h2, k2, X2, e2, E2, hS2, hj2, hZ2, hown2, RC2, lt2, st2⟩ := ldcOH X1 hx hZ hown (hw _ w_35) (strW hw) e1 hS (Nat.zero_le _) hEL RR0.1 (g := (mkF m 5 #[.val (.ref a), .val (.ref sc), .val (.int t)] [(.ref sc)])) rfl (hb hby d4_5) (n := 24) (by decide) (by decide) (by decide) (by decide)
  refine Fin.go st2 ?_
  have O2 := O.ext E2
  have K2 := K0.ext E2
  have RR2 := RR0.trans RC2
  show Fin _ p e below s _ _ _ T2 (mkF m 7 #[.val (.ref a), .val (.ref sc), .val (.int t)] [(.ref a2), (.ref sc)])
  obtain ⟨v3, T3, L3, X3, q3, st3⟩ := callSt X2 hx hZ2 (y := (⟨"java/util/Objects", "requireNonNull", "(Ljava/lang/Object;Ljava/lang/String;)Ljava/lang/Object;"⟩ : MethodName)) hown2 (hw _ w_43) (hw _ w_44) (hw _ w_45) (hw _ w_46) (by decide) (W := 0) (rmRNN l Z a0 hw n0 h2 O2 sc a2) e2 (by decide) (by decide) (by decide) (by decide) (g := (mkF m 7 #[.val (.ref a), .val (.ref sc), .val (.int t)] [(.ref a2), (.ref sc)])) rfl (by rw [hml]; rfl) (argsL := [(.ref sc), (.ref a2)]) (rest := []) (lenOf pd_oLjava_lang_Object_Ljava_lang_String_cLjava_lang_Object_ rfl) rfl (by show 2 * 0 + _ ≤ _; exact Nat.le_of_eq rfl) (hb hby d4_7)
  obtain ⟨rfl, e3, rfl⟩ := q3
  have N3 := Fr.app N1 (Fr.nil n0)
  refine Fin.go st3 ?_
  show Fin _ p e below s _ _ _ T3 (mkF m 10 #[.val (.ref a), .val (.ref sc), .val (.int t)] [(.ref sc)])
  refine Fin.go (fun _ k => XT.pop X3.here hx rfl (hb hby d4_10) rfl rfl k) ?_
  show Fin _ p e below s _ _ _ T3 (mkF m 11 #[.val (.ref a), .val (.ref sc), .val (.int t)] [])
  refine Fin.go (fun _ k => XS.iloadN X3.here hx rfl (hb hby d4_11) rfl k) ?_
  show Fin _ p e below s _ _ _ T3 (mkF m 12 #[.val (.ref a), .val (.ref sc), .val (.int t)] [(.int t)])
  refine Fin.go (fun _ k => XS.iconst X3.here hx rfl (hb hby d4_12) k) ?_
  show Fin _ p e below s _ _ _ T3 (mkF m 13 #[.val (.ref a), .val (.ref sc), .val (.int t)] [(.int (1 : Int32)), (.int t)])
  refine Fin.go (fun _ k => XS.icmpNo X3.here hx rfl (hb hby d4_13) rfl (XT.ii_lt_f ht1) k) ?_
  show Fin _ p e below s _ _ _ T3 (mkF m 16 #[.val (.ref a), .val (.ref sc), .val (.int t)] [])
  refine Fin.go (fun _ k => XS.iloadN X3.here hx rfl (hb hby d4_16) rfl k) ?_
  show Fin _ p e below s _ _ _ T3 (mkF m 17 #[.val (.ref a), .val (.ref sc), .val (.int t)] [(.int t)])
  refine Fin.go (fun _ k => XS.sipush X3.here hx rfl (hb hby d4_17) k) ?_
  show Fin _ p e below s _ _ _ T3 (mkF m 20 #[.val (.ref a), .val (.ref sc), .val (.int t)] [(.int (3600 : Int32)), (.int t)])
  refine Fin.go (fun _ k => XS.icmpYes X3.here hx rfl (pc0 := 20) (pc' := 33) rfl (hb hby d4_20) rfl (XT.ii_le_t ht2) (by decide) (by decide) k) ?_
  show Fin _ p e below s _ _ _ T3 (mkF m 33 #[.val (.ref a), .val (.ref sc), .val (.int t)] [])
  refine Fin.go (fun _ k => XS.aloadN X3.here hx rfl (hb hby d4_33) rfl rfl k) ?_
  show Fin _ p e below s _ _ _ T3 (mkF m 34 #[.val (.ref a), .val (.ref sc), .val (.int t)] [(.ref a)])
  refine Fin.go (fun _ k => XS.aloadN X3.here hx rfl (hb hby d4_34) rfl rfl k) ?_
  show Fin _ p e below s _ _ _ T3 (mkF m 35 #[.val (.ref a), .val (.ref sc), .val (.int t)] [(.ref sc), (.ref a)])
  obtain ⟨T4, h4, X4, e4, W4, st4⟩ := putF X3 hx hZ2 hown2 (host := "") (Or.inl (hw _ w_47)) Via.refl e3 (F1.ext E2) (A.ext E2) (Or.inr ⟨(hw _ w_48), rfl, hnm⟩) (hw _ w_16) (ty := (.object "com/example/kittiwake/kittiwake/core/signing/SignatureScheme")) (by decide) rfl rfl (g := (mkF m 35 #[.val (.ref a), .val (.ref sc), .val (.int t)] [(.ref sc), (.ref a)])) rfl rfl (hb hby d4_35)
  refine Fin.go st4 ?_
  have N4 := Fr.snoc X4 N3 na
  have O4 := O2.wr W4 na
  have K4 := K2.wr W4 (Or.inl (List.mem_of_getElem? (i := 0) rfl))
  have hk4 := Nat.le_trans hj2 (Keep.of_wr W4).1
  have RR4 := RR2.trans (CHr.wr W4 (Safe.exa hZ2.alike (A.ext E2) (by decide) (by decide)) RR2.1)
  have F4_a_toleranceSeconds := ((F2.ext E2).other W4 (Or.inr (slot_ne (Or.inr (hw _ w_50)) (Or.inr (hw _ w_48)) (by decide) (t := .int) (t' := (.object "com/example/kittiwake/kittiwake/core/signing/SignatureScheme")) (by decide) (by decide))))
  show Fin _ p e below s _ _ _ T4 (mkF m 38 #[.val (.ref a), .val (.ref sc), .val (.int t)] [])
  refine Fin.go (fun _ k => XS.aloadN X4.here hx rfl (hb hby d4_38) rfl rfl k) ?_
  show Fin _ p e below s _ _ _ T4 (mkF m 39 #[.val (.ref a), .val (.ref sc), .val (.int t)] [(.ref a)])
  refine Fin.go (fun _ k => XS.iloadN X4.here hx rfl (hb hby d4_39) rfl k) ?_
  show Fin _ p e below s _ _ _ T4 (mkF m 40 #[.val (.ref a), .val (.ref sc), .val (.int t)] [(.int t), (.ref a)])
  obtain ⟨T5, h5, X5, e5, W5, st5⟩ := putF X4 hx hZ2 hown2 (host := "") (Or.inl (hw _ w_49)) Via.refl e4 F4_a_toleranceSeconds ((A.ext E2).wr W4) (Or.inr ⟨(hw _ w_50), rfl, hnm⟩) (hw _ w_16) (ty := .int) (by decide) rfl rfl (g := (mkF m 40 #[.val (.ref a), .val (.ref sc), .val (.int t)] [(.int t), (.ref a)])) rfl rfl (hb hby d4_40)
  refine Fin.go st5 ?_
  have N5 := Fr.snoc X5 N4 na
  have O5 := O4.wr W5 na
  have K5 := K4.wr W5 (Or.inl (List.mem_of_getElem? (i := 0) rfl))
  have hk5 := Nat.le_trans hk4 (Keep.of_wr W5).1
  have RR5 := RR4.trans (CHr.wr W5 (Safe.exa hZ2.alike ((A.ext E2).wr W4) (by decide) (by decide)) RR4.1)
  have F5_a_scheme := (((F1.ext E2).same W4).other W5 (Or.inr (slot_ne (Or.inr (hw _ w_48)) (Or.inr (hw _ w_50)) (by decide) (t := (.object "com/example/kittiwake/kittiwake/core/signing/SignatureScheme")) (t' := .int) (by decide) (by decide))))
  show Fin _ p e below s _ _ _ T5 (mkF m 43 #[.val (.ref a), .val (.ref sc), .val (.int t)] [])
  exact Fin.leaveH X5 hS2 hk5 hZ2 hEL e5 RR5 hlk (v := none) (fun _ => rfl) (by decide) (by decide) ⟨rfl, N5, K5, (((A.ext E2).wr W4).wr W5), F5_a_scheme, (F4_a_toleranceSeconds.same W5)⟩ (fun fs hr => X5.returnOut hx hret (hb hby d4_43) hr)
set_option maxRecDepth 65536 in
set_option maxHeartbeats 40000000 in
theorem rmWr (l : Launch) (Z : State) (a0 : Array Value) (hw : ∀ d ∈ tables_1, d.before a0 Z = true) (n0 : Nat) (h0 : Heap) (O : Old Z n0 h0) (sc b : Addr) (t : Int32) (ht1 : ¬ t < 1) (ht2 : ¬ 3600 < t) (A : Exa Z h0 b "java/lang/Integer") (F : Fld Z h0 b "java/lang/Integer" "value" "I" (.int t)) :
    ConHW l Z EL [] (⟨"com/example/kittiwake/kittiwake/core/signing/SignatureCheck", "withDefaults", "(Lcom/example/kittiwake/kittiwake/core/signing/SignatureScheme;Ljava/lang/Integer;)Lcom/example/kittiwake/kittiwake/core/signing/SignatureCheck;"⟩ : MethodName) prog_15_method_2_code 2 (some (.object "com/example/kittiwake/kittiwake/core/signing/SignatureCheck")) ({ frames := 3, cells := 3, slots := 30, locals := 39 } : Room) #[(.ref sc), (.ref b)] h0 (fun v h L => ∃ c, v = some (.ref c) ∧ Fr n0 L ∧ Keep h0 h [] ∧ Exa Z h c "com/example/kittiwake/kittiwake/core/signing/SignatureCheck" ∧ Fld Z h c "com/example/kittiwake/kittiwake/core/signing/SignatureCheck" "scheme" "Lcom/example/kittiwake/kittiwake/core/signing/SignatureScheme;" (.ref sc) ∧ Fld Z h c "com/example/kittiwake/kittiwake/core/signing/SignatureCheck" "toleranceSeconds" "I" (.int t)) := by
  refine conOfH (plainFor_of_name pn_com_example_kittiwake_kittiwake_core_signing_SignatureCheck) ?_
  intro p e s m below mth cc s₁ X0 hx hby hml hown hnm hret hlk hZ e0 hS RR0
  have N0 := Fr.nil n0
  have hEL := elW hw
  have K0 := Keep.refl h0 ([] : List Addr)
  refine Fin.came (castTop (t := _) (by first | (simp [entryFrame, mkF, argsToLocals, Value.category]; done) | rfl) (Steps.refl _) : Steps p.tables e below (s₁.setTop (entryFrame m #[(.ref sc), (.ref b)] 2)) (s₁.setTop (mkF m 0 #[.val (.ref sc), .val (.ref b)] []))) ?_
  show Fin _ p e below s _ _ _ s₁ (mkF m 0 #[.val (.ref sc), .val (.ref b)] [])
  obtain ⟨T1, h1, X1, e1, E1, A1, D1, U1, st1⟩ := newO X0 hx hZ hown (hw _ w_15) (hw _ w_16) (hw _ w_13) e0 (g := (mkF m 0 #[.val (.ref sc), .val (.ref b)] [])) rfl (hb hby d2_0) (by decide) (by decide)
  obtain ⟨a1, g1⟩ : ∃ z, z = h0.size := ⟨_, rfl⟩
  rw [← g1] at A1 D1 U1 st1
  refine Fin.go st1 ?_
  have O1 := O.ext E1
  have K1 := K0.ext E1
  have hk1 := Nat.le_trans (Nat.zero_le _) E1.1
  have RR1 := RR0.trans (CHr.ext E1 RR0.1)
  have n1 : n0 ≤ a1 := by have := O.2.1; have := O.1; omega
  have z1 : h0.size ≤ a1 := by have := K0.1; omega
  have F1_scheme : Fld Z h1 a1 "com/example/kittiwake/kittiwake/core/signing/SignatureCheck" "scheme" "Lcom/example/kittiwake/kittiwake/core/signing/SignatureScheme;" .null := D1 (Or.inr (hw _ w_48)) (ty := (.object "com/example/kittiwake/kittiwake/core/signing/SignatureScheme")) (by decide)
  have F1_toleranceSeconds : Fld Z h1 a1 "com/example/kittiwake/kittiwake/core/signing/SignatureCheck" "toleranceSeconds" "I" (.int (0 : Int32)) := D1 (Or.inr (hw _ w_50)) (ty := .int) (by decide)
  show Fin _ p e below s _ _ _ T1 (mkF m 3 #[.val (.ref sc), .val (.ref b)] [(.ref a1)])
  refine Fin.go (fun _ k => XS.dup X1.here hx rfl (hb hby d2_3) rfl rfl k) ?_
  show Fin _ p e below s _ _ _ T1 (mkF m 4 #[.val (.ref sc), .val (.ref b)] [(.ref a1), (.ref a1)])
  refine Fin.go (fun _ k => XS.aloadN X1.here hx rfl (hb hby d2_4) rfl rfl k) ?_
  show Fin _ p e below s _ _ _ T1 (mkF m 5 #[.val (.ref sc), .val (.ref b)] [(.ref sc), (.ref a1), (.ref a1)])
  refine Fin.go (fun _ k => XS.aloadN X1.here hx rfl (hb hby d2_5) rfl rfl k) ?_
  show Fin _ p e below s _ _ _ T1 (mkF m 6 #[.val (.ref sc), .val (.ref b)] [(.ref b), (.ref sc), (.ref a1), (.ref a1)])
  refine Fin.go (fun _ k => XT.ifnonnullYes X1.here hx rfl (pc0 := 6) (pc' := 15) rfl (hb hby d2_6) rfl (by decide) (by decide) k) ?_
  show Fin _ p e below s _ _ _ T1 (mkF m 15 #[.val (.ref sc), .val (.ref b)] [(.ref sc), (.ref a1), (.ref a1)])
  refine Fin.go (fun _ k => XS.aloadN X1.here hx rfl (hb hby d2_15) rfl rfl k) ?_
  show Fin _ p e below s _ _ _ T1 (mkF m 16 #[.val (.ref sc), .val (.ref b)] [(.ref b), (.ref sc), (.ref a1), (.ref a1)])
  obtain ⟨v2, T2, L2, X2, q2, st2⟩ := callVt X1 hx hZ (y := (⟨"java/lang/Integer", "intValue", "()I"⟩ : MethodName)) hown (hw _ w_17) (hw _ w_18) (hw _ w_20) (hw _ w_19) (hw _ w_6) (hw _ w_21) (by decide) (W := 3) (rmIV l Z a0 hw n0 h1 O1 b t (F.ext E1)) e1 (A.ext E1) (by decide) (by decide) (by decide) (by decide) (g := (mkF m 16 #[.val (.ref sc), .val (.ref b)] [(.ref b), (.ref sc), (.ref a1), (.ref a1)])) rfl (by rw [hml]; rfl) (argsL := []) (rest := [(.ref sc), (.ref a1), (.ref a1)]) (lenOf pd_ocI rfl) rfl (by show 2 * 0 + _ ≤ _; exact Nat.le_of_eq rfl) (hb hby d2_16)
  obtain ⟨rfl, e2, rfl⟩ := q2
  have N2 := Fr.app N0 (Fr.nil n0)
  refine Fin.go st2 ?_
  show Fin _ p e below s _ _ _ T2 (mkF m 19 #[.val (.ref sc), .val (.ref b)] [(.int t), (.ref sc), (.ref a1), (.ref a1)])
  obtain ⟨v3, T3, L3, X3, hS3, hZ3, hown3, RC3, q3, st3⟩ := callCtH X2 hx hZ (y := (⟨"com/example/kittiwake/kittiwake/core/signing/SignatureCheck", "<init>", "(Lcom/example/kittiwake/kittiwake/core/signing/SignatureScheme;I)V"⟩ : MethodName)) rfl hown (hw _ w_24) (hw _ w_25) (hw _ w_13) (hw _ w_26) (by decide) (W := 1) (rmSC l Z a0 hw n0 h1 O1 a1 sc t ht1 ht2 A1 F1_scheme F1_toleranceSeconds n1) e2 hS hk1 hEL RR1.1 (by decide) (by decide) (by decide) (by decide) (g := (mkF m 19 #[.val (.ref sc), .val (.ref b)] [(.int t), (.ref sc), (.ref a1), (.ref a1)])) rfl (by rw [hml]; rfl) (a := a1) (argsL := [(.ref sc), (.int t)]) (rest := [(.ref a1)]) (lenOf pd_oLcom_example_kittiwake_kittiwake_core_signing_SignatureScheme_IcV rfl) rfl (by show 2 * 0 + _ ≤ _; exact Nat.le_of_eq rfl) (hb hby d2_19)
  obtain ⟨rfl, Nq3, Kq3, A3, F13, F23⟩ := q3
  have N3 := Fr.app N2 Nq3
  have O3 := O1.keep Kq3 (allS n1 all0)
  have K3 := K1.trans Kq3 (allS (Or.inr z1) all0)
  have RR3 := RR1.trans RC3
  refine Fin.go st3 ?_
  have F3_b_value := ((F.ext E1).keep Kq3 (ninS (Nat.ne_of_lt (Nat.lt_of_lt_of_eq A.lt g1.symm)) nin0))
  show Fin _ p e below s _ _ _ T3 (mkF m 22 #[.val (.ref sc), .val (.ref b)] [(.ref a1)])
  exact Fin.leaveH X3 hS3 (Nat.le_refl T3.heap.size) hZ3 hEL (rfl : T3.heap = T3.heap) RR3 hlk (v := some (.ref a1)) (fun h => by rw [hret] at h; cases h) (by decide) (by decide) ⟨a1, rfl, N3, K3, A3, F13, F23⟩ (fun fs hr => retOut X3 hx hret rfl (Or.inr (Or.inr (Or.inr (Or.inr ⟨rfl, rfl, rfl⟩)))) (hb hby d2_22) hr)
set_option maxRecDepth 65536 in
set_option maxHeartbeats 40000000 in
theorem rmWn (l : Launch) (Z : State) (a0 : Array Value) (hw : ∀ d ∈ tables_1, d.before a0 Z = true) (n0 : Nat) (h0 : Heap) (O : Old Z n0 h0) (sc : Addr) :
    ConHW l Z EL [] (⟨"com/example/kittiwake/kittiwake/core/signing/SignatureCheck", "withDefaults", "(Lcom/example/kittiwake/kittiwake/core/signing/SignatureScheme;Ljava/lang/Integer;)Lcom/example/kittiwake/kittiwake/core/signing/SignatureCheck;"⟩ : MethodName) prog_15_method_2_code 2 (some (.object "com/example/kittiwake/kittiwake/core/signing/SignatureCheck")) ({ frames := 3, cells := 3, slots := 30, locals := 39 } : Room) #[(.ref sc), .null] h0 (fun v h L => ∃ c, v = some (.ref c) ∧ Fr n0 L ∧ Keep h0 h [] ∧ Exa Z h c "com/example/kittiwake/kittiwake/core/signing/SignatureCheck" ∧ Fld Z h c "com/example/kittiwake/kittiwake/core/signing/SignatureCheck" "scheme" "Lcom/example/kittiwake/kittiwake/core/signing/SignatureScheme;" (.ref sc) ∧ Fld Z h c "com/example/kittiwake/kittiwake/core/signing/SignatureCheck" "toleranceSeconds" "I" (.int (300 : Int32))) := by
  refine conOfH (plainFor_of_name pn_com_example_kittiwake_kittiwake_core_signing_SignatureCheck) ?_
  intro p e s m below mth cc s₁ X0 hx hby hml hown hnm hret hlk hZ e0 hS RR0
  have N0 := Fr.nil n0
  have hEL := elW hw
  have K0 := Keep.refl h0 ([] : List Addr)
  refine Fin.came (castTop (t := _) (by first | (simp [entryFrame, mkF, argsToLocals, Value.category]; done) | rfl) (Steps.refl _) : Steps p.tables e below (s₁.setTop (entryFrame m #[(.ref sc), .null] 2)) (s₁.setTop (mkF m 0 #[.val (.ref sc), .val .null] []))) ?_
  show Fin _ p e below s _ _ _ s₁ (mkF m 0 #[.val (.ref sc), .val .null] [])
  obtain ⟨T1, h1, X1, e1, E1, A1, D1, U1, st1⟩ := newO X0 hx hZ hown (hw _ w_15) (hw _ w_16) (hw _ w_13) e0 (g := (mkF m 0 #[.val (.ref sc), .val .null] [])) rfl (hb hby d2_0) (by decide) (by decide)
  obtain ⟨a1, g1⟩ : ∃ z, z = h0.size := ⟨_, rfl⟩
  rw [← g1] at A1 D1 U1 st1
  refine Fin.go st1 ?_
  have O1 := O.ext E1
  have K1 := K0.ext E1
  have hk1 := Nat.le_trans (Nat.zero_le _) E1.1
  have RR1 := RR0.trans (CHr.ext E1 RR0.1)
  have n1 : n0 ≤ a1 := by have := O.2.1; have := O.1; omega
  have z1 : h0.size ≤ a1 := by have := K0.1; omega
  have F1_scheme : Fld Z h1 a1 "com/example/kittiwake/kittiwake/core/signing/SignatureCheck" "scheme" "Lcom/example/kittiwake/kittiwake/core/signing/SignatureScheme;" .null := D1 (Or.inr (hw _ w_48)) (ty := (.object "com/example/kittiwake/kittiwake/core/signing/SignatureScheme")) (by decide)
  have F1_toleranceSeconds : Fld Z h1 a1 "com/example/kittiwake/kittiwake/core/signing/SignatureCheck" "toleranceSeconds" "I" (.int (0 : Int32)) := D1 (Or.inr (hw _ w_50)) (ty := .int) (by decide)
  show Fin _ p e below s _ _ _ T1 (mkF m 3 #[.val (.ref sc), .val .null] [(.ref a1)])
  refine Fin.go (fun _ k => XS.dup X1.here hx rfl (hb hby d2_3) rfl rfl k) ?_
  show Fin _ p e below s _ _ _ T1 (mkF m 4 #[.val (.ref sc), .val .null] [(.ref a1), (.ref a1)])
  refine Fin.go (fun _ k => XS.aloadN X1.here hx rfl (hb hby d2_4) rfl rfl k) ?_
  show Fin _ p e below s _ _ _ T1 (mkF m 5 #[.val (.ref sc), .val .null] [(.ref sc), (.ref a1), (.ref a1)])
  refine Fin.go (fun _ k => XS.aloadN X1.here hx rfl (hb hby d2_5) rfl rfl k) ?_
  show Fin _ p e below s _ _ _ T1 (mkF m 6 #[.val (.ref sc), .val .null] [.null, (.ref sc), (.ref a1), (.ref a1)])
  refine Fin.go (fun _ k => XT.ifnonnullNo X1.here hx rfl (hb hby d2_6) rfl k) ?_
  show Fin _ p e below s _ _ _ T1 (mkF m 9 #[.val (.ref sc), .val .null] [(.ref sc), (.ref a1), (.ref a1)])
  refine Fin.go (fun _ k => XS.sipush X1.here hx rfl (hb hby d2_9) k) ?_
  show Fin _ p e below s _ _ _ T1 (mkF m 12 #[.val (.ref sc), .val .null] [(.int (300 : Int32)), (.ref sc), (.ref a1), (.ref a1)])
  refine Fin.go (fun _ k => XS.goto X1.here hx rfl (pc0 := 12) (pc' := 19) rfl (hb hby d2_12) (by decide) (by decide) k) ?_
  show Fin _ p e below s _ _ _ T1 (mkF m 19 #[.val (.ref sc), .val .null] [(.int (300 : Int32)), (.ref sc), (.ref a1), (.ref a1)])
  obtain ⟨v2, T2, L2, X2, hS2, hZ2, hown2, RC2, q2, st2⟩ := callCtH X1 hx hZ (y := (⟨"com/example/kittiwake/kittiwake/core/signing/SignatureCheck", "<init>", "(Lcom/example/kittiwake/kittiwake/core/signing/SignatureScheme;I)V"⟩ : MethodName)) rfl hown (hw _ w_24) (hw _ w_25) (hw _ w_13) (hw _ w_26) (by decide) (W := 1) (rmSC l Z a0 hw n0 h1 O1 a1 sc (300 : Int32) (by decide) (by decide) A1 F1_scheme F1_toleranceSeconds n1) e1 hS hk1 hEL RR1.1 (by decide) (by decide) (by decide) (by decide) (g := (mkF m 19 #[.val (.ref sc), .val .null] [(.int (300 : Int32)), (.ref sc), (.ref a1), (.ref a1)])) rfl (by rw [hml]; rfl) (a := a1) (argsL := [(.ref sc), (.int (300 : Int32))]) (rest := [(.ref a1)]) (lenOf pd_oLcom_example_kittiwake_kittiwake_core_signing_SignatureScheme_IcV rfl) rfl (by show 2 * 0 + _ ≤ _; exact Nat.le_of_eq rfl) (hb hby d2_19)
  obtain ⟨rfl, Nq2, Kq2, A2, F12, F22⟩ := q2
  have N2 := Fr.app N0 Nq2
  have O2 := O1.keep Kq2 (allS n1 all0)
  have K2 := K1.trans Kq2 (allS (Or.inr z1) all0)
  have RR2 := RR1.trans RC2
  refine Fin.go st2 ?_
  show Fin _ p e below s _ _ _ T2 (mkF m 22 #[.val (.ref sc), .val .null] [(.ref a1)])
  exact Fin.leaveH X2 hS2 (Nat.le_refl T2.heap.size) hZ2 hEL (rfl : T2.heap = T2.heap) RR2 hlk (v := some (.ref a1)) (fun h => by rw [hret] at h; cases h) (by decide) (by decide) ⟨a1, rfl, N2, K2, A2, F12, F22⟩ (fun fs hr => retOut X2 hx hret rfl (Or.inr (Or.inr (Or.inr (Or.inr ⟨rfl, rfl, rfl⟩)))) (hb hby d2_22) hr)
set_option maxRecDepth 65536 in
set_option maxHeartbeats 40000000 in
theorem rmSch (l : Launch) (Z : State) (a0 : Array Value) (hw : ∀ d ∈ tables_1, d.before a0 Z = true) (n0 : Nat) (h0 : Heap) (O : Old Z n0 h0) (a sc : Addr) (F : Fld Z h0 a "com/example/kittiwake/kittiwake/core/signing/SignatureCheck" "scheme" "Lcom/example/kittiwake/kittiwake/core/signing/SignatureScheme;" (.ref sc)) :
    ConW FrameEnd l Z [] (⟨"com/example/kittiwake/kittiwake/core/signing/SignatureCheck", "scheme", "()Lcom/example/kittiwake/kittiwake/core/signing/SignatureScheme;"⟩ : MethodName) prog_15_method_6_code 1 (some (.object "com/example/kittiwake/kittiwake/core/signing/SignatureScheme")) ({ frames := 0, cells := 0, slots := 0, locals := 0 } : Room) #[(.ref a)] h0 (Pure h0 (some (.ref sc))) := by
  refine conOf (plainFor_of_name pn_com_example_kittiwake_kittiwake_core_signing_SignatureCheck) ?_
  intro p e s m below mth cc s₁ X0 hx hby hml hown hnm hret hlk hZ e0
  have N0 := Fr.nil n0
  refine Fin.came (castTop (t := _) (by first | (simp [entryFrame, mkF, argsToLocals, Value.category]; done) | rfl) (Steps.refl _) : Steps p.tables e below (s₁.setTop (entryFrame m #[(.ref a)] 1)) (s₁.setTop (mkF m 0 #[.val (.ref a)] []))) ?_
  show Fin _ p e below s _ _ _ s₁ (mkF m 0 #[.val (.ref a)] [])
  refine Fin.go (fun _ k => XS.aloadN X0.here hx rfl (hb hby d8_0) rfl rfl k) ?_
  show Fin _ p e below s _ _ _ s₁ (mkF m 1 #[.val (.ref a)] [(.ref a)])
  obtain ⟨T1, X1, e1, st1⟩ := getF X0 hx hZ hown (host := "") (Or.inl (hw _ w_47)) Via.refl e0 F (g := (mkF m 1 #[.val (.ref a)] [(.ref a)])) rfl rfl (hb hby d8_1)
  refine Fin.go st1 ?_
  show Fin _ p e below s _ _ _ T1 (mkF m 4 #[.val (.ref a)] [(.ref sc)])
  exact Fin.leaveN X1 e1 hlk (v := some (.ref sc)) (fun h => by rw [hret] at h; cases h) (by decide) (by decide) ⟨rfl, rfl, rfl⟩ (fun fs hr => retOut X1 hx hret rfl (Or.inr (Or.inr (Or.inr (Or.inr ⟨rfl, rfl, rfl⟩)))) (hb hby d8_4) hr)
set_option maxRecDepth 65536 in
set_option maxHeartbeats 40000000 in
theorem rmTol (l : Launch) (Z : State) (a0 : Array Value) (hw : ∀ d ∈ tables_1, d.before a0 Z = true) (n0 : Nat) (h0 : Heap) (O : Old Z n0 h0) (a : Addr) (t : Int32) (F : Fld Z h0 a "com/example/kittiwake/kittiwake/core/signing/SignatureCheck" "toleranceSeconds" "I" (.int t)) :
    ConW FrameEnd l Z [] (⟨"com/example/kittiwake/kittiwake/core/signing/SignatureCheck", "toleranceSeconds", "()I"⟩ : MethodName) prog_15_method_7_code 1 (some .int) ({ frames := 0, cells := 0, slots := 0, locals := 0 } : Room) #[(.ref a)] h0 (Pure h0 (some (.int t))) := by
  refine conOf (plainFor_of_name pn_com_example_kittiwake_kittiwake_core_signing_SignatureCheck) ?_
  intro p e s m below mth cc s₁ X0 hx hby hml hown hnm hret hlk hZ e0
  have N0 := Fr.nil n0
  refine Fin.came (castTop (t := _) (by first | (simp [entryFrame, mkF, argsToLocals, Value.category]; done) | rfl) (Steps.refl _) : Steps p.tables e below (s₁.setTop (entryFrame m #[(.ref a)] 1)) (s₁.setTop (mkF m 0 #[.val (.ref a)] []))) ?_
  show Fin _ p e below s _ _ _ s₁ (mkF m 0 #[.val (.ref a)] [])
  refine Fin.go (fun _ k => XS.aloadN X0.here hx rfl (hb hby d9_0) rfl rfl k) ?_
  show Fin _ p e below s _ _ _ s₁ (mkF m 1 #[.val (.ref a)] [(.ref a)])
  obtain ⟨T1, X1, e1, st1⟩ := getF X0 hx hZ hown (host := "") (Or.inl (hw _ w_49)) Via.refl e0 F (g := (mkF m 1 #[.val (.ref a)] [(.ref a)])) rfl rfl (hb hby d9_1)
  refine Fin.go st1 ?_
  show Fin _ p e below s _ _ _ T1 (mkF m 4 #[.val (.ref a)] [(.int t)])
  exact Fin.leaveN X1 e1 hlk (v := some (.int t)) (fun h => by rw [hret] at h; cases h) (by decide) (by decide) ⟨rfl, rfl, rfl⟩ (fun fs hr => retI X1 hx hret (hb hby d9_4) hr)
set_option maxRecDepth 65536 in
set_option maxHeartbeats 40000000 in
theorem law (l : Launch) (Z : State) (a0 : Array Value) (hw : ∀ d ∈ tables_1, d.before a0 Z = true) (n0 : Nat) (h0 : Heap) (O : Old Z n0 h0) (p0 p1 p2 : Int32) (S_hi : Sta Z Z.heap "java/lang/Integer$IntegerCache" "high" "I" (.int 127)) (aK : Addr) (cK : Cell) (S_ca : Sta Z Z.heap "java/lang/Integer$IntegerCache" "cache" "[Ljava/lang/Integer;" (.ref aK)) (B : Bxs Z aK cK "java/lang/Integer" "I" 256 fun j => .int (j - 128)) (aG aS aH aD : Addr) (S_aG : Sta Z Z.heap "com/example/kittiwake/kittiwake/core/signing/SignatureScheme" "GITHUB" "Lcom/example/kittiwake/kittiwake/core/signing/SignatureScheme;" (.ref aG)) (S_aS : Sta Z Z.heap "com/example/kittiwake/kittiwake/core/signing/SignatureScheme" "STRIPE" "Lcom/example/kittiwake/kittiwake/core/signing/SignatureScheme;" (.ref aS)) (S_aH : Sta Z Z.heap "com/example/kittiwake/kittiwake/core/signing/SignatureScheme" "SHOPIFY" "Lcom/example/kittiwake/kittiwake/core/signing/SignatureScheme;" (.ref aH)) (S_aD : Sta Z Z.heap "com/example/kittiwake/kittiwake/core/signing/SignatureScheme" "STANDARD" "Lcom/example/kittiwake/kittiwake/core/signing/SignatureScheme;" (.ref aD)) :
    ConHW l Z EL tables_1 x code maxLocals ret room_1 #[(.int p0), (.int p1), (.int p2)] h0 (fun v h L => v = some (.int 1) ∧ Fr n0 L) := by
  refine conOfH (plainFor_of_name pn_com_example_kittiwake_kittiwake_core_signing_SignatureCheckWithDefaultsPinLaw) ?_
  intro p e s m below mth cc s₁ X0 hx hby hml hown hnm hret hlk hZ e0 hS RR0
  have N0 := Fr.nil n0
  have hEL := elW hw
  refine Fin.came (castTop (t := _) (by first | (simp [entryFrame, mkF, argsToLocals, Value.category, maxLocals]; done) | rfl) (Steps.refl _) : Steps p.tables e below (s₁.setTop (entryFrame m #[(.int p0), (.int p1), (.int p2)] maxLocals)) (s₁.setTop (mkF m 0 #[.val (.int p0), .val (.int p1), .val (.int p2), .unset, .unset, .unset, .unset, .unset, .unset, .unset] []))) ?_
  show Fin _ p e below s _ _ _ s₁ (mkF m 0 #[.val (.int p0), .val (.int p1), .val (.int p2), .unset, .unset, .unset, .unset, .unset, .unset, .unset] [])
  have tail : ∀ (x4 : Addr) (T : State) (X : Stand p l e room_1 (s.setVm s.vm) m #[(.int p0), (.int p1), (.int p2)] below mth cc T [] 0 0) (eT : T.heap = h0), Fin (EH Z EL) p e below s (fun v h L => v = some (.int 1) ∧ Fr n0 L) room_1.cells room_1.slots T (mkF m 47 #[.val (.int p0), .val (.int p1), .val (.int p2), .val (.int (p0 &&& (3 : Int32))), .val (.ref x4), .unset, .unset, .unset, .unset, .unset] []) := by
    intro x4 T X eT
    refine Fin.go (fun _ k => XS.iloadN X.here hx rfl (hb hby at_47) rfl k) ?_
    show Fin _ p e below s _ _ _ T (mkF m 48 #[.val (.int p0), .val (.int p1), .val (.int p2), .val (.int (p0 &&& (3 : Int32))), .val (.ref x4), .unset, .unset, .unset, .unset, .unset] [(.int p2)])
    refine Fin.go (fun _ k => XS.iconst X.here hx rfl (hb hby at_48) k) ?_
    show Fin _ p e below s _ _ _ T (mkF m 49 #[.val (.int p0), .val (.int p1), .val (.int p2), .val (.int (p0 &&& (3 : Int32))), .val (.ref x4), .unset, .unset, .unset, .unset, .unset] [(.int (1 : Int32)), (.int p2)])
    refine Fin.go (fun _ k => XS.iand X.here hx rfl (hb hby at_49) rfl k) ?_
    show Fin _ p e below s _ _ _ T (mkF m 50 #[.val (.int p0), .val (.int p1), .val (.int p2), .val (.int (p0 &&& (3 : Int32))), .val (.ref x4), .unset, .unset, .unset, .unset, .unset] [(.int (p2 &&& (1 : Int32)))])
    by_cases c50 : (p2 &&& (1 : Int32)) = 0
    · refine Fin.go (fun _ k => XS.ifYes X.here hx rfl (pc0 := 50) (pc' := 57) rfl (hb hby at_50) rfl (XT.i0_eq_t c50) (by decide) (by decide) k) ?_
      show Fin _ p e below s _ _ _ T (mkF m 57 #[.val (.int p0), .val (.int p1), .val (.int p2), .val (.int (p0 &&& (3 : Int32))), .val (.ref x4), .unset, .unset, .unset, .unset, .unset] [])
      refine Fin.go (fun _ k => XS.iconst X.here hx rfl (hb hby at_57) k) ?_
      show Fin _ p e below s _ _ _ T (mkF m 58 #[.val (.int p0), .val (.int p1), .val (.int p2), .val (.int (p0 &&& (3 : Int32))), .val (.ref x4), .unset, .unset, .unset, .unset, .unset] [(.int (0 : Int32))])
      refine Fin.go (fun _ k => XS.istore X.here hx rfl (hb hby at_58) rfl (l' := #[.val (.int p0), .val (.int p1), .val (.int p2), .val (.int (p0 &&& (3 : Int32))), .val (.ref x4), .val (.int (0 : Int32)), .unset, .unset, .unset, .unset]) rfl k) ?_
      show Fin _ p e below s _ _ _ T (mkF m 60 #[.val (.int p0), .val (.int p1), .val (.int p2), .val (.int (p0 &&& (3 : Int32))), .val (.ref x4), .val (.int (0 : Int32)), .unset, .unset, .unset, .unset] [])
      refine Fin.go (fun _ k => XS.iconst X.here hx rfl (hb hby at_60) k) ?_
      show Fin _ p e below s _ _ _ T (mkF m 61 #[.val (.int p0), .val (.int p1), .val (.int p2), .val (.int (p0 &&& (3 : Int32))), .val (.ref x4), .val (.int (0 : Int32)), .unset, .unset, .unset, .unset] [(.int (1 : Int32))])
      refine Fin.go (fun _ k => XS.iloadN X.here hx rfl (hb hby at_61) rfl k) ?_
      show Fin _ p e below s _ _ _ T (mkF m 62 #[.val (.int p0), .val (.int p1), .val (.int p2), .val (.int (p0 &&& (3 : Int32))), .val (.ref x4), .val (.int (0 : Int32)), .unset, .unset, .unset, .unset] [(.int p1), (.int (1 : Int32))])
      refine Fin.go (fun _ k => X.ldcI hx hown (mvT hZ (hw _ w_3)) rfl (hb hby at_62) k) ?_
      show Fin _ p e below s _ _ _ T (mkF m 64 #[.val (.int p0), .val (.int p1), .val (.int p2), .val (.int (p0 &&& (3 : Int32))), .val (.ref x4), .val (.int (0 : Int32)), .unset, .unset, .unset, .unset] [(.int (2147483647 : Int32)), (.int p1), (.int (1 : Int32))])
      refine Fin.go (fun _ k => XS.iand X.here hx rfl (hb hby at_64) rfl k) ?_
      show Fin _ p e below s _ _ _ T (mkF m 65 #[.val (.int p0), .val (.int p1), .val (.int p2), .val (.int (p0 &&& (3 : Int32))), .val (.ref x4), .val (.int (0 : Int32)), .unset, .unset, .unset, .unset] [(.int (p1 &&& (2147483647 : Int32))), (.int (1 : Int32))])
      refine Fin.go (fun _ k => XS.sipush X.here hx rfl (hb hby at_65) k) ?_
      show Fin _ p e below s _ _ _ T (mkF m 68 #[.val (.int p0), .val (.int p1), .val (.int p2), .val (.int (p0 &&& (3 : Int32))), .val (.ref x4), .val (.int (0 : Int32)), .unset, .unset, .unset, .unset] [(.int (3600 : Int32)), (.int (p1 &&& (2147483647 : Int32))), (.int (1 : Int32))])
      refine Fin.go (fun _ k => iremM X hx rfl (hb hby at_68) rfl (by decide) k) ?_
      show Fin _ p e below s _ _ _ T (mkF m 69 #[.val (.int p0), .val (.int p1), .val (.int p2), .val (.int (p0 &&& (3 : Int32))), .val (.ref x4), .val (.int (0 : Int32)), .unset, .unset, .unset, .unset] [(.int ((p1 &&& (2147483647 : Int32)) % (3600 : Int32))), (.int (1 : Int32))])
      refine Fin.go (fun _ k => XS.iadd X.here hx rfl (hb hby at_69) rfl k) ?_
      show Fin _ p e below s _ _ _ T (mkF m 70 #[.val (.int p0), .val (.int p1), .val (.int p2), .val (.int (p0 &&& (3 : Int32))), .val (.ref x4), .val (.int (0 : Int32)), .unset, .unset, .unset, .unset] [(.int ((1 : Int32) + ((p1 &&& (2147483647 : Int32)) % (3600 : Int32))))])
      refine Fin.go (fun _ k => XS.istore X.here hx rfl (hb hby at_70) rfl (l' := #[.val (.int p0), .val (.int p1), .val (.int p2), .val (.int (p0 &&& (3 : Int32))), .val (.ref x4), .val (.int (0 : Int32)), .val (.int ((1 : Int32) + ((p1 &&& (2147483647 : Int32)) % (3600 : Int32)))), .unset, .unset, .unset]) rfl k) ?_
      show Fin _ p e below s _ _ _ T (mkF m 72 #[.val (.int p0), .val (.int p1), .val (.int p2), .val (.int (p0 &&& (3 : Int32))), .val (.ref x4), .val (.int (0 : Int32)), .val (.int ((1 : Int32) + ((p1 &&& (2147483647 : Int32)) % (3600 : Int32)))), .unset, .unset, .unset] [])
      refine Fin.go (fun _ k => XS.iload X.here hx rfl (hb hby at_72) rfl k) ?_
      show Fin _ p e below s _ _ _ T (mkF m 74 #[.val (.int p0), .val (.int p1), .val (.int p2), .val (.int (p0 &&& (3 : Int32))), .val (.ref x4), .val (.int (0 : Int32)), .val (.int ((1 : Int32) + ((p1 &&& (2147483647 : Int32)) % (3600 : Int32)))), .unset, .unset, .unset] [(.int (0 : Int32))])
      refine Fin.go (fun _ k => XS.ifYes X.here hx rfl (pc0 := 74) (pc' := 81) rfl (hb hby at_74) rfl (XT.i0_eq_t (by decide)) (by decide) (by decide) k) ?_
      show Fin _ p e below s _ _ _ T (mkF m 81 #[.val (.int p0), .val (.int p1), .val (.int p2), .val (.int (p0 &&& (3 : Int32))), .val (.ref x4), .val (.int (0 : Int32)), .val (.int ((1 : Int32) + ((p1 &&& (2147483647 : Int32)) % (3600 : Int32)))), .unset, .unset, .unset] [])
      refine Fin.go (fun _ k => XS.iload X.here hx rfl (hb hby at_81) rfl k) ?_
      show Fin _ p e below s _ _ _ T (mkF m 83 #[.val (.int p0), .val (.int p1), .val (.int p2), .val (.int (p0 &&& (3 : Int32))), .val (.ref x4), .val (.int (0 : Int32)), .val (.int ((1 : Int32) + ((p1 &&& (2147483647 : Int32)) % (3600 : Int32)))), .unset, .unset, .unset] [(.int ((1 : Int32) + ((p1 &&& (2147483647 : Int32)) % (3600 : Int32))))])
      obtain ⟨v1, T1, L1, X1, q1, st1⟩ := callSt X hx hZ (y := (⟨"java/lang/Integer", "valueOf", "(I)Ljava/lang/Integer;"⟩ : MethodName)) hown (hw _ w_4) (hw _ w_5) (hw _ w_6) (hw _ w_7) (by decide) (W := 0) (rmVal l Z a0 hw n0 h0 O ((1 : Int32) + ((p1 &&& (2147483647 : Int32)) % (3600 : Int32))) S_hi aK cK S_ca B) eT (by decide) (by decide) (by decide) (by decide) (g := (mkF m 83 #[.val (.int p0), .val (.int p1), .val (.int p2), .val (.int (p0 &&& (3 : Int32))), .val (.ref x4), .val (.int (0 : Int32)), .val (.int ((1 : Int32) + ((p1 &&& (2147483647 : Int32)) % (3600 : Int32)))), .unset, .unset, .unset] [(.int ((1 : Int32) + ((p1 &&& (2147483647 : Int32)) % (3600 : Int32))))])) rfl (by rw [hml]; rfl) (argsL := [(.int ((1 : Int32) + ((p1 &&& (2147483647 : Int32)) % (3600 : Int32))))]) (rest := []) (lenOf pd_oIcLjava_lang_Integer_ rfl) rfl (by show 2 * 0 + _ ≤ _; exact Nat.le_of_eq rfl) (hb hby at_83)
      obtain ⟨b1, rfl, Nq1, Kq1, A1, F1⟩ := q1
      have N1 := Fr.app N0 Nq1
      have O1 := O.keep Kq1 all0
      have RR1 := RR0.trans (CHr.keep Kq1 sf0 RR0.1)
      have hk1 := Nat.le_trans (Nat.zero_le _) Kq1.1
      refine Fin.go st1 ?_
      show Fin _ p e below s _ _ _ T1 (mkF m 86 #[.val (.int p0), .val (.int p1), .val (.int p2), .val (.int (p0 &&& (3 : Int32))), .val (.ref x4), .val (.int (0 : Int32)), .val (.int ((1 : Int32) + ((p1 &&& (2147483647 : Int32)) % (3600 : Int32)))), .unset, .unset, .unset] [(.ref b1)])
      refine Fin.go (fun _ k => XS.astore X1.here hx rfl (hb hby at_86) rfl rfl (l' := #[.val (.int p0), .val (.int p1), .val (.int p2), .val (.int (p0 &&& (3 : Int32))), .val (.ref x4), .val (.int (0 : Int32)), .val (.int ((1 : Int32) + ((p1 &&& (2147483647 : Int32)) % (3600 : Int32)))), .val (.ref b1), .unset, .unset]) rfl k) ?_
      show Fin _ p e below s _ _ _ T1 (mkF m 88 #[.val (.int p0), .val (.int p1), .val (.int p2), .val (.int (p0 &&& (3 : Int32))), .val (.ref x4), .val (.int (0 : Int32)), .val (.int ((1 : Int32) + ((p1 &&& (2147483647 : Int32)) % (3600 : Int32)))), .val (.ref b1), .unset, .unset] [])
      refine Fin.go (fun _ k => XS.aload X1.here hx rfl (hb hby at_88) rfl rfl k) ?_
      show Fin _ p e below s _ _ _ T1 (mkF m 90 #[.val (.int p0), .val (.int p1), .val (.int p2), .val (.int (p0 &&& (3 : Int32))), .val (.ref x4), .val (.int (0 : Int32)), .val (.int ((1 : Int32) + ((p1 &&& (2147483647 : Int32)) % (3600 : Int32)))), .val (.ref b1), .unset, .unset] [(.ref x4)])
      refine Fin.go (fun _ k => XS.aload X1.here hx rfl (hb hby at_90) rfl rfl k) ?_
      show Fin _ p e below s _ _ _ T1 (mkF m 92 #[.val (.int p0), .val (.int p1), .val (.int p2), .val (.int (p0 &&& (3 : Int32))), .val (.ref x4), .val (.int (0 : Int32)), .val (.int ((1 : Int32) + ((p1 &&& (2147483647 : Int32)) % (3600 : Int32)))), .val (.ref b1), .unset, .unset] [(.ref b1), (.ref x4)])
      obtain ⟨v2, T2, L2, X2, hS2, hZ2, hown2, RC2, q2, st2⟩ := callStH X1 hx hZ (y := (⟨"com/example/kittiwake/kittiwake/core/signing/SignatureCheck", "withDefaults", "(Lcom/example/kittiwake/kittiwake/core/signing/SignatureScheme;Ljava/lang/Integer;)Lcom/example/kittiwake/kittiwake/core/signing/SignatureCheck;"⟩ : MethodName)) hown (hw _ w_11) (hw _ w_12) (hw _ w_13) (hw _ w_14) (by decide) (W := 0) (rmWr l Z a0 hw n0 T1.heap O1 x4 b1 ((1 : Int32) + ((p1 &&& (2147483647 : Int32)) % (3600 : Int32))) (tb p1).1 (tb p1).2 A1 F1) (rfl : T1.heap = T1.heap) hS hk1 hEL RR1.1 (by decide) (by decide) (by decide) (by decide) (g := (mkF m 92 #[.val (.int p0), .val (.int p1), .val (.int p2), .val (.int (p0 &&& (3 : Int32))), .val (.ref x4), .val (.int (0 : Int32)), .val (.int ((1 : Int32) + ((p1 &&& (2147483647 : Int32)) % (3600 : Int32)))), .val (.ref b1), .unset, .unset] [(.ref b1), (.ref x4)])) rfl (by rw [hml]; rfl) (argsL := [(.ref x4), (.ref b1)]) (rest := []) (lenOf pd_oLcom_example_kittiwake_kittiwake_core_signing_SignatureScheme_Ljava_lang_Integer_cLcom_example_kittiwake_kittiwake_core_signing_SignatureCheck_ rfl) rfl (by show 2 * 0 + _ ≤ _; exact Nat.le_of_eq rfl) (hb hby at_92)
      obtain ⟨c2, rfl, Nq2, Kq2, A2, F12, F22⟩ := q2
      have N2 := Fr.app N1 Nq2
      have O2 := O1.keep Kq2 all0
      have RR2 := RR1.trans RC2
      refine Fin.go st2 ?_
      show Fin _ p e below s _ _ _ T2 (mkF m 95 #[.val (.int p0), .val (.int p1), .val (.int p2), .val (.int (p0 &&& (3 : Int32))), .val (.ref x4), .val (.int (0 : Int32)), .val (.int ((1 : Int32) + ((p1 &&& (2147483647 : Int32)) % (3600 : Int32)))), .val (.ref b1), .unset, .unset] [(.ref c2)])
      refine Fin.go (fun _ k => XS.astore X2.here hx rfl (hb hby at_95) rfl rfl (l' := #[.val (.int p0), .val (.int p1), .val (.int p2), .val (.int (p0 &&& (3 : Int32))), .val (.ref x4), .val (.int (0 : Int32)), .val (.int ((1 : Int32) + ((p1 &&& (2147483647 : Int32)) % (3600 : Int32)))), .val (.ref b1), .val (.ref c2), .unset]) rfl k) ?_
      show Fin _ p e below s _ _ _ T2 (mkF m 97 #[.val (.int p0), .val (.int p1), .val (.int p2), .val (.int (p0 &&& (3 : Int32))), .val (.ref x4), .val (.int (0 : Int32)), .val (.int ((1 : Int32) + ((p1 &&& (2147483647 : Int32)) % (3600 : Int32)))), .val (.ref b1), .val (.ref c2), .unset] [])
      refine Fin.go (fun _ k => XS.iload X2.here hx rfl (hb hby at_97) rfl k) ?_
      show Fin _ p e below s _ _ _ T2 (mkF m 99 #[.val (.int p0), .val (.int p1), .val (.int p2), .val (.int (p0 &&& (3 : Int32))), .val (.ref x4), .val (.int (0 : Int32)), .val (.int ((1 : Int32) + ((p1 &&& (2147483647 : Int32)) % (3600 : Int32)))), .val (.ref b1), .val (.ref c2), .unset] [(.int (0 : Int32))])
      refine Fin.go (fun _ k => XS.ifYes X2.here hx rfl (pc0 := 99) (pc' := 108) rfl (hb hby at_99) rfl (XT.i0_eq_t (by decide)) (by decide) (by decide) k) ?_
      show Fin _ p e below s _ _ _ T2 (mkF m 108 #[.val (.int p0), .val (.int p1), .val (.int p2), .val (.int (p0 &&& (3 : Int32))), .val (.ref x4), .val (.int (0 : Int32)), .val (.int ((1 : Int32) + ((p1 &&& (2147483647 : Int32)) % (3600 : Int32)))), .val (.ref b1), .val (.ref c2), .unset] [])
      refine Fin.go (fun _ k => XS.iload X2.here hx rfl (hb hby at_108) rfl k) ?_
      show Fin _ p e below s _ _ _ T2 (mkF m 110 #[.val (.int p0), .val (.int p1), .val (.int p2), .val (.int (p0 &&& (3 : Int32))), .val (.ref x4), .val (.int (0 : Int32)), .val (.int ((1 : Int32) + ((p1 &&& (2147483647 : Int32)) % (3600 : Int32)))), .val (.ref b1), .val (.ref c2), .unset] [(.int ((1 : Int32) + ((p1 &&& (2147483647 : Int32)) % (3600 : Int32))))])
      refine Fin.go (fun _ k => XS.istore X2.here hx rfl (hb hby at_110) rfl (l' := #[.val (.int p0), .val (.int p1), .val (.int p2), .val (.int (p0 &&& (3 : Int32))), .val (.ref x4), .val (.int (0 : Int32)), .val (.int ((1 : Int32) + ((p1 &&& (2147483647 : Int32)) % (3600 : Int32)))), .val (.ref b1), .val (.ref c2), .val (.int ((1 : Int32) + ((p1 &&& (2147483647 : Int32)) % (3600 : Int32))))]) rfl k) ?_
      show Fin _ p e below s _ _ _ T2 (mkF m 112 #[.val (.int p0), .val (.int p1), .val (.int p2), .val (.int (p0 &&& (3 : Int32))), .val (.ref x4), .val (.int (0 : Int32)), .val (.int ((1 : Int32) + ((p1 &&& (2147483647 : Int32)) % (3600 : Int32)))), .val (.ref b1), .val (.ref c2), .val (.int ((1 : Int32) + ((p1 &&& (2147483647 : Int32)) % (3600 : Int32))))] [])
      refine Fin.go (fun _ k => XS.aload X2.here hx rfl (hb hby at_112) rfl rfl k) ?_
      show Fin _ p e below s _ _ _ T2 (mkF m 114 #[.val (.int p0), .val (.int p1), .val (.int p2), .val (.int (p0 &&& (3 : Int32))), .val (.ref x4), .val (.int (0 : Int32)), .val (.int ((1 : Int32) + ((p1 &&& (2147483647 : Int32)) % (3600 : Int32)))), .val (.ref b1), .val (.ref c2), .val (.int ((1 : Int32) + ((p1 &&& (2147483647 : Int32)) % (3600 : Int32))))] [(.ref c2)])
      obtain ⟨v3, T3, L3, X3, q3, st3⟩ := callVt X2 hx hZ2 (y := (⟨"com/example/kittiwake/kittiwake/core/signing/SignatureCheck", "scheme", "()Lcom/example/kittiwake/kittiwake/core/signing/SignatureScheme;"⟩ : MethodName)) hown2 (hw _ w_51) (hw _ w_52) (hw _ w_54) (hw _ w_53) (hw _ w_13) (hw _ w_55) (by decide) (W := 0) (rmSch l Z a0 hw n0 T2.heap O2 c2 x4 F12) (rfl : T2.heap = T2.heap) A2 (by decide) (by decide) (by decide) (by decide) (g := (mkF m 114 #[.val (.int p0), .val (.int p1), .val (.int p2), .val (.int (p0 &&& (3 : Int32))), .val (.ref x4), .val (.int (0 : Int32)), .val (.int ((1 : Int32) + ((p1 &&& (2147483647 : Int32)) % (3600 : Int32)))), .val (.ref b1), .val (.ref c2), .val (.int ((1 : Int32) + ((p1 &&& (2147483647 : Int32)) % (3600 : Int32))))] [(.ref c2)])) rfl (by rw [hml]; rfl) (argsL := []) (rest := []) (lenOf pd_ocLcom_example_kittiwake_kittiwake_core_signing_SignatureScheme_ rfl) rfl (by show 2 * 0 + _ ≤ _; exact Nat.le_of_eq rfl) (hb hby at_114)
      obtain ⟨rfl, e3, rfl⟩ := q3
      have N3 := Fr.app N2 (Fr.nil n0)
      refine Fin.go st3 ?_
      show Fin _ p e below s _ _ _ T3 (mkF m 117 #[.val (.int p0), .val (.int p1), .val (.int p2), .val (.int (p0 &&& (3 : Int32))), .val (.ref x4), .val (.int (0 : Int32)), .val (.int ((1 : Int32) + ((p1 &&& (2147483647 : Int32)) % (3600 : Int32)))), .val (.ref b1), .val (.ref c2), .val (.int ((1 : Int32) + ((p1 &&& (2147483647 : Int32)) % (3600 : Int32))))] [(.ref x4)])
      refine Fin.go (fun _ k => XS.aload X3.here hx rfl (hb hby at_117) rfl rfl k) ?_
      show Fin _ p e below s _ _ _ T3 (mkF m 119 #[.val (.int p0), .val (.int p1), .val (.int p2), .val (.int (p0 &&& (3 : Int32))), .val (.ref x4), .val (.int (0 : Int32)), .val (.int ((1 : Int32) + ((p1 &&& (2147483647 : Int32)) % (3600 : Int32)))), .val (.ref b1), .val (.ref c2), .val (.int ((1 : Int32) + ((p1 &&& (2147483647 : Int32)) % (3600 : Int32))))] [(.ref x4), (.ref x4)])
      refine Fin.go (fun _ k => XT.acmpNo X3.here hx rfl (hb hby at_119) rfl rfl rfl (XT.aa_ne_f rfl) k) ?_
      show Fin _ p e below s _ _ _ T3 (mkF m 122 #[.val (.int p0), .val (.int p1), .val (.int p2), .val (.int (p0 &&& (3 : Int32))), .val (.ref x4), .val (.int (0 : Int32)), .val (.int ((1 : Int32) + ((p1 &&& (2147483647 : Int32)) % (3600 : Int32)))), .val (.ref b1), .val (.ref c2), .val (.int ((1 : Int32) + ((p1 &&& (2147483647 : Int32)) % (3600 : Int32))))] [])
      refine Fin.go (fun _ k => XS.aload X3.here hx rfl (hb hby at_122) rfl rfl k) ?_
      show Fin _ p e below s _ _ _ T3 (mkF m 124 #[.val (.int p0), .val (.int p1), .val (.int p2), .val (.int (p0 &&& (3 : Int32))), .val (.ref x4), .val (.int (0 : Int32)), .val (.int ((1 : Int32) + ((p1 &&& (2147483647 : Int32)) % (3600 : Int32)))), .val (.ref b1), .val (.ref c2), .val (.int ((1 : Int32) + ((p1 &&& (2147483647 : Int32)) % (3600 : Int32))))] [(.ref c2)])
      obtain ⟨v4, T4, L4, X4, q4, st4⟩ := callVt X3 hx hZ2 (y := (⟨"com/example/kittiwake/kittiwake/core/signing/SignatureCheck", "toleranceSeconds", "()I"⟩ : MethodName)) hown2 (hw _ w_56) (hw _ w_57) (hw _ w_59) (hw _ w_58) (hw _ w_13) (hw _ w_60) (by decide) (W := 0) (rmTol l Z a0 hw n0 T2.heap O2 c2 ((1 : Int32) + ((p1 &&& (2147483647 : Int32)) % (3600 : Int32))) F22) e3 A2 (by decide) (by decide) (by decide) (by decide) (g := (mkF m 124 #[.val (.int p0), .val (.int p1), .val (.int p2), .val (.int (p0 &&& (3 : Int32))), .val (.ref x4), .val (.int (0 : Int32)), .val (.int ((1 : Int32) + ((p1 &&& (2147483647 : Int32)) % (3600 : Int32)))), .val (.ref b1), .val (.ref c2), .val (.int ((1 : Int32) + ((p1 &&& (2147483647 : Int32)) % (3600 : Int32))))] [(.ref c2)])) rfl (by rw [hml]; rfl) (argsL := []) (rest := []) (lenOf pd_ocI rfl) rfl (by show 2 * 0 + _ ≤ _; exact Nat.le_of_eq rfl) (hb hby at_124)
      obtain ⟨rfl, e4, rfl⟩ := q4
      have N4 := Fr.app N3 (Fr.nil n0)
      refine Fin.go st4 ?_
      show Fin _ p e below s _ _ _ T4 (mkF m 127 #[.val (.int p0), .val (.int p1), .val (.int p2), .val (.int (p0 &&& (3 : Int32))), .val (.ref x4), .val (.int (0 : Int32)), .val (.int ((1 : Int32) + ((p1 &&& (2147483647 : Int32)) % (3600 : Int32)))), .val (.ref b1), .val (.ref c2), .val (.int ((1 : Int32) + ((p1 &&& (2147483647 : Int32)) % (3600 : Int32))))] [(.int ((1 : Int32) + ((p1 &&& (2147483647 : Int32)) % (3600 : Int32))))])
      refine Fin.go (fun _ k => XS.iload X4.here hx rfl (hb hby at_127) rfl k) ?_
      show Fin _ p e below s _ _ _ T4 (mkF m 129 #[.val (.int p0), .val (.int p1), .val (.int p2), .val (.int (p0 &&& (3 : Int32))), .val (.ref x4), .val (.int (0 : Int32)), .val (.int ((1 : Int32) + ((p1 &&& (2147483647 : Int32)) % (3600 : Int32)))), .val (.ref b1), .val (.ref c2), .val (.int ((1 : Int32) + ((p1 &&& (2147483647 : Int32)) % (3600 : Int32))))] [(.int ((1 : Int32) + ((p1 &&& (2147483647 : Int32)) % (3600 : Int32)))), (.int ((1 : Int32) + ((p1 &&& (2147483647 : Int32)) % (3600 : Int32))))])
      refine Fin.go (fun _ k => XS.icmpNo X4.here hx rfl (hb hby at_129) rfl (XT.ii_ne_f rfl) k) ?_
      show Fin _ p e below s _ _ _ T4 (mkF m 132 #[.val (.int p0), .val (.int p1), .val (.int p2), .val (.int (p0 &&& (3 : Int32))), .val (.ref x4), .val (.int (0 : Int32)), .val (.int ((1 : Int32) + ((p1 &&& (2147483647 : Int32)) % (3600 : Int32)))), .val (.ref b1), .val (.ref c2), .val (.int ((1 : Int32) + ((p1 &&& (2147483647 : Int32)) % (3600 : Int32))))] [])
      refine Fin.go (fun _ k => XS.iconst X4.here hx rfl (hb hby at_132) k) ?_
      show Fin _ p e below s _ _ _ T4 (mkF m 133 #[.val (.int p0), .val (.int p1), .val (.int p2), .val (.int (p0 &&& (3 : Int32))), .val (.ref x4), .val (.int (0 : Int32)), .val (.int ((1 : Int32) + ((p1 &&& (2147483647 : Int32)) % (3600 : Int32)))), .val (.ref b1), .val (.ref c2), .val (.int ((1 : Int32) + ((p1 &&& (2147483647 : Int32)) % (3600 : Int32))))] [(.int (1 : Int32))])
      refine Fin.go (fun _ k => XS.goto X4.here hx rfl (pc0 := 133) (pc' := 137) rfl (hb hby at_133) (by decide) (by decide) k) ?_
      show Fin _ p e below s _ _ _ T4 (mkF m 137 #[.val (.int p0), .val (.int p1), .val (.int p2), .val (.int (p0 &&& (3 : Int32))), .val (.ref x4), .val (.int (0 : Int32)), .val (.int ((1 : Int32) + ((p1 &&& (2147483647 : Int32)) % (3600 : Int32)))), .val (.ref b1), .val (.ref c2), .val (.int ((1 : Int32) + ((p1 &&& (2147483647 : Int32)) % (3600 : Int32))))] [(.int (1 : Int32))])
      exact Fin.leaveH X4 hS2 (Nat.le_refl T2.heap.size) hZ2 hEL e4 RR2 hlk (v := some (.int (nar .boolean (1 : Int32)))) (fun h => by rw [hret] at h; cases h) (by decide) (by decide) ⟨rfl, N4⟩ (fun fs hr => retN X4 hx (t := .boolean) hret (by simp) (hb hby at_137) hr)
    · refine Fin.go (fun _ k => XS.ifNo X.here hx rfl (hb hby at_50) rfl (XT.i0_eq_f c50) k) ?_
      show Fin _ p e below s _ _ _ T (mkF m 53 #[.val (.int p0), .val (.int p1), .val (.int p2), .val (.int (p0 &&& (3 : Int32))), .val (.ref x4), .unset, .unset, .unset, .unset, .unset] [])
      refine Fin.go (fun _ k => XS.iconst X.here hx rfl (hb hby at_53) k) ?_
      show Fin _ p e below s _ _ _ T (mkF m 54 #[.val (.int p0), .val (.int p1), .val (.int p2), .val (.int (p0 &&& (3 : Int32))), .val (.ref x4), .unset, .unset, .unset, .unset, .unset] [(.int (1 : Int32))])
      refine Fin.go (fun _ k => XS.goto X.here hx rfl (pc0 := 54) (pc' := 58) rfl (hb hby at_54) (by decide) (by decide) k) ?_
      show Fin _ p e below s _ _ _ T (mkF m 58 #[.val (.int p0), .val (.int p1), .val (.int p2), .val (.int (p0 &&& (3 : Int32))), .val (.ref x4), .unset, .unset, .unset, .unset, .unset] [(.int (1 : Int32))])
      refine Fin.go (fun _ k => XS.istore X.here hx rfl (hb hby at_58) rfl (l' := #[.val (.int p0), .val (.int p1), .val (.int p2), .val (.int (p0 &&& (3 : Int32))), .val (.ref x4), .val (.int (1 : Int32)), .unset, .unset, .unset, .unset]) rfl k) ?_
      show Fin _ p e below s _ _ _ T (mkF m 60 #[.val (.int p0), .val (.int p1), .val (.int p2), .val (.int (p0 &&& (3 : Int32))), .val (.ref x4), .val (.int (1 : Int32)), .unset, .unset, .unset, .unset] [])
      refine Fin.go (fun _ k => XS.iconst X.here hx rfl (hb hby at_60) k) ?_
      show Fin _ p e below s _ _ _ T (mkF m 61 #[.val (.int p0), .val (.int p1), .val (.int p2), .val (.int (p0 &&& (3 : Int32))), .val (.ref x4), .val (.int (1 : Int32)), .unset, .unset, .unset, .unset] [(.int (1 : Int32))])
      refine Fin.go (fun _ k => XS.iloadN X.here hx rfl (hb hby at_61) rfl k) ?_
      show Fin _ p e below s _ _ _ T (mkF m 62 #[.val (.int p0), .val (.int p1), .val (.int p2), .val (.int (p0 &&& (3 : Int32))), .val (.ref x4), .val (.int (1 : Int32)), .unset, .unset, .unset, .unset] [(.int p1), (.int (1 : Int32))])
      refine Fin.go (fun _ k => X.ldcI hx hown (mvT hZ (hw _ w_3)) rfl (hb hby at_62) k) ?_
      show Fin _ p e below s _ _ _ T (mkF m 64 #[.val (.int p0), .val (.int p1), .val (.int p2), .val (.int (p0 &&& (3 : Int32))), .val (.ref x4), .val (.int (1 : Int32)), .unset, .unset, .unset, .unset] [(.int (2147483647 : Int32)), (.int p1), (.int (1 : Int32))])
      refine Fin.go (fun _ k => XS.iand X.here hx rfl (hb hby at_64) rfl k) ?_
      show Fin _ p e below s _ _ _ T (mkF m 65 #[.val (.int p0), .val (.int p1), .val (.int p2), .val (.int (p0 &&& (3 : Int32))), .val (.ref x4), .val (.int (1 : Int32)), .unset, .unset, .unset, .unset] [(.int (p1 &&& (2147483647 : Int32))), (.int (1 : Int32))])
      refine Fin.go (fun _ k => XS.sipush X.here hx rfl (hb hby at_65) k) ?_
      show Fin _ p e below s _ _ _ T (mkF m 68 #[.val (.int p0), .val (.int p1), .val (.int p2), .val (.int (p0 &&& (3 : Int32))), .val (.ref x4), .val (.int (1 : Int32)), .unset, .unset, .unset, .unset] [(.int (3600 : Int32)), (.int (p1 &&& (2147483647 : Int32))), (.int (1 : Int32))])
      refine Fin.go (fun _ k => iremM X hx rfl (hb hby at_68) rfl (by decide) k) ?_
      show Fin _ p e below s _ _ _ T (mkF m 69 #[.val (.int p0), .val (.int p1), .val (.int p2), .val (.int (p0 &&& (3 : Int32))), .val (.ref x4), .val (.int (1 : Int32)), .unset, .unset, .unset, .unset] [(.int ((p1 &&& (2147483647 : Int32)) % (3600 : Int32))), (.int (1 : Int32))])
      refine Fin.go (fun _ k => XS.iadd X.here hx rfl (hb hby at_69) rfl k) ?_
      show Fin _ p e below s _ _ _ T (mkF m 70 #[.val (.int p0), .val (.int p1), .val (.int p2), .val (.int (p0 &&& (3 : Int32))), .val (.ref x4), .val (.int (1 : Int32)), .unset, .unset, .unset, .unset] [(.int ((1 : Int32) + ((p1 &&& (2147483647 : Int32)) % (3600 : Int32))))])
      refine Fin.go (fun _ k => XS.istore X.here hx rfl (hb hby at_70) rfl (l' := #[.val (.int p0), .val (.int p1), .val (.int p2), .val (.int (p0 &&& (3 : Int32))), .val (.ref x4), .val (.int (1 : Int32)), .val (.int ((1 : Int32) + ((p1 &&& (2147483647 : Int32)) % (3600 : Int32)))), .unset, .unset, .unset]) rfl k) ?_
      show Fin _ p e below s _ _ _ T (mkF m 72 #[.val (.int p0), .val (.int p1), .val (.int p2), .val (.int (p0 &&& (3 : Int32))), .val (.ref x4), .val (.int (1 : Int32)), .val (.int ((1 : Int32) + ((p1 &&& (2147483647 : Int32)) % (3600 : Int32)))), .unset, .unset, .unset] [])
      refine Fin.go (fun _ k => XS.iload X.here hx rfl (hb hby at_72) rfl k) ?_
      show Fin _ p e below s _ _ _ T (mkF m 74 #[.val (.int p0), .val (.int p1), .val (.int p2), .val (.int (p0 &&& (3 : Int32))), .val (.ref x4), .val (.int (1 : Int32)), .val (.int ((1 : Int32) + ((p1 &&& (2147483647 : Int32)) % (3600 : Int32)))), .unset, .unset, .unset] [(.int (1 : Int32))])
      refine Fin.go (fun _ k => XS.ifNo X.here hx rfl (hb hby at_74) rfl (XT.i0_eq_f (by decide)) k) ?_
      show Fin _ p e below s _ _ _ T (mkF m 77 #[.val (.int p0), .val (.int p1), .val (.int p2), .val (.int (p0 &&& (3 : Int32))), .val (.ref x4), .val (.int (1 : Int32)), .val (.int ((1 : Int32) + ((p1 &&& (2147483647 : Int32)) % (3600 : Int32)))), .unset, .unset, .unset] [])
      refine Fin.go (fun _ k => XS.aconstNull X.here hx rfl (hb hby at_77) k) ?_
      show Fin _ p e below s _ _ _ T (mkF m 78 #[.val (.int p0), .val (.int p1), .val (.int p2), .val (.int (p0 &&& (3 : Int32))), .val (.ref x4), .val (.int (1 : Int32)), .val (.int ((1 : Int32) + ((p1 &&& (2147483647 : Int32)) % (3600 : Int32)))), .unset, .unset, .unset] [.null])
      refine Fin.go (fun _ k => XS.goto X.here hx rfl (pc0 := 78) (pc' := 86) rfl (hb hby at_78) (by decide) (by decide) k) ?_
      show Fin _ p e below s _ _ _ T (mkF m 86 #[.val (.int p0), .val (.int p1), .val (.int p2), .val (.int (p0 &&& (3 : Int32))), .val (.ref x4), .val (.int (1 : Int32)), .val (.int ((1 : Int32) + ((p1 &&& (2147483647 : Int32)) % (3600 : Int32)))), .unset, .unset, .unset] [.null])
      refine Fin.go (fun _ k => XS.astore X.here hx rfl (hb hby at_86) rfl rfl (l' := #[.val (.int p0), .val (.int p1), .val (.int p2), .val (.int (p0 &&& (3 : Int32))), .val (.ref x4), .val (.int (1 : Int32)), .val (.int ((1 : Int32) + ((p1 &&& (2147483647 : Int32)) % (3600 : Int32)))), .val .null, .unset, .unset]) rfl k) ?_
      show Fin _ p e below s _ _ _ T (mkF m 88 #[.val (.int p0), .val (.int p1), .val (.int p2), .val (.int (p0 &&& (3 : Int32))), .val (.ref x4), .val (.int (1 : Int32)), .val (.int ((1 : Int32) + ((p1 &&& (2147483647 : Int32)) % (3600 : Int32)))), .val .null, .unset, .unset] [])
      refine Fin.go (fun _ k => XS.aload X.here hx rfl (hb hby at_88) rfl rfl k) ?_
      show Fin _ p e below s _ _ _ T (mkF m 90 #[.val (.int p0), .val (.int p1), .val (.int p2), .val (.int (p0 &&& (3 : Int32))), .val (.ref x4), .val (.int (1 : Int32)), .val (.int ((1 : Int32) + ((p1 &&& (2147483647 : Int32)) % (3600 : Int32)))), .val .null, .unset, .unset] [(.ref x4)])
      refine Fin.go (fun _ k => XS.aload X.here hx rfl (hb hby at_90) rfl rfl k) ?_
      show Fin _ p e below s _ _ _ T (mkF m 92 #[.val (.int p0), .val (.int p1), .val (.int p2), .val (.int (p0 &&& (3 : Int32))), .val (.ref x4), .val (.int (1 : Int32)), .val (.int ((1 : Int32) + ((p1 &&& (2147483647 : Int32)) % (3600 : Int32)))), .val .null, .unset, .unset] [.null, (.ref x4)])
      obtain ⟨v5, T5, L5, X5, hS5, hZ5, hown5, RC5, q5, st5⟩ := callStH X hx hZ (y := (⟨"com/example/kittiwake/kittiwake/core/signing/SignatureCheck", "withDefaults", "(Lcom/example/kittiwake/kittiwake/core/signing/SignatureScheme;Ljava/lang/Integer;)Lcom/example/kittiwake/kittiwake/core/signing/SignatureCheck;"⟩ : MethodName)) hown (hw _ w_11) (hw _ w_12) (hw _ w_13) (hw _ w_14) (by decide) (W := 0) (rmWn l Z a0 hw n0 h0 O x4) eT hS (Nat.zero_le _) hEL RR0.1 (by decide) (by decide) (by decide) (by decide) (g := (mkF m 92 #[.val (.int p0), .val (.int p1), .val (.int p2), .val (.int (p0 &&& (3 : Int32))), .val (.ref x4), .val (.int (1 : Int32)), .val (.int ((1 : Int32) + ((p1 &&& (2147483647 : Int32)) % (3600 : Int32)))), .val .null, .unset, .unset] [.null, (.ref x4)])) rfl (by rw [hml]; rfl) (argsL := [(.ref x4), .null]) (rest := []) (lenOf pd_oLcom_example_kittiwake_kittiwake_core_signing_SignatureScheme_Ljava_lang_Integer_cLcom_example_kittiwake_kittiwake_core_signing_SignatureCheck_ rfl) rfl (by show 2 * 0 + _ ≤ _; exact Nat.le_of_eq rfl) (hb hby at_92)
      obtain ⟨c5, rfl, Nq5, Kq5, A5, F15, F25⟩ := q5
      have N5 := Fr.app N0 Nq5
      have O5 := O.keep Kq5 all0
      have RR5 := RR0.trans RC5
      refine Fin.go st5 ?_
      show Fin _ p e below s _ _ _ T5 (mkF m 95 #[.val (.int p0), .val (.int p1), .val (.int p2), .val (.int (p0 &&& (3 : Int32))), .val (.ref x4), .val (.int (1 : Int32)), .val (.int ((1 : Int32) + ((p1 &&& (2147483647 : Int32)) % (3600 : Int32)))), .val .null, .unset, .unset] [(.ref c5)])
      refine Fin.go (fun _ k => XS.astore X5.here hx rfl (hb hby at_95) rfl rfl (l' := #[.val (.int p0), .val (.int p1), .val (.int p2), .val (.int (p0 &&& (3 : Int32))), .val (.ref x4), .val (.int (1 : Int32)), .val (.int ((1 : Int32) + ((p1 &&& (2147483647 : Int32)) % (3600 : Int32)))), .val .null, .val (.ref c5), .unset]) rfl k) ?_
      show Fin _ p e below s _ _ _ T5 (mkF m 97 #[.val (.int p0), .val (.int p1), .val (.int p2), .val (.int (p0 &&& (3 : Int32))), .val (.ref x4), .val (.int (1 : Int32)), .val (.int ((1 : Int32) + ((p1 &&& (2147483647 : Int32)) % (3600 : Int32)))), .val .null, .val (.ref c5), .unset] [])
      refine Fin.go (fun _ k => XS.iload X5.here hx rfl (hb hby at_97) rfl k) ?_
      show Fin _ p e below s _ _ _ T5 (mkF m 99 #[.val (.int p0), .val (.int p1), .val (.int p2), .val (.int (p0 &&& (3 : Int32))), .val (.ref x4), .val (.int (1 : Int32)), .val (.int ((1 : Int32) + ((p1 &&& (2147483647 : Int32)) % (3600 : Int32)))), .val .null, .val (.ref c5), .unset] [(.int (1 : Int32))])
      refine Fin.go (fun _ k => XS.ifNo X5.here hx rfl (hb hby at_99) rfl (XT.i0_eq_f (by decide)) k) ?_
      show Fin _ p e below s _ _ _ T5 (mkF m 102 #[.val (.int p0), .val (.int p1), .val (.int p2), .val (.int (p0 &&& (3 : Int32))), .val (.ref x4), .val (.int (1 : Int32)), .val (.int ((1 : Int32) + ((p1 &&& (2147483647 : Int32)) % (3600 : Int32)))), .val .null, .val (.ref c5), .unset] [])
      refine Fin.go (fun _ k => XS.sipush X5.here hx rfl (hb hby at_102) k) ?_
      show Fin _ p e below s _ _ _ T5 (mkF m 105 #[.val (.int p0), .val (.int p1), .val (.int p2), .val (.int (p0 &&& (3 : Int32))), .val (.ref x4), .val (.int (1 : Int32)), .val (.int ((1 : Int32) + ((p1 &&& (2147483647 : Int32)) % (3600 : Int32)))), .val .null, .val (.ref c5), .unset] [(.int (300 : Int32))])
      refine Fin.go (fun _ k => XS.goto X5.here hx rfl (pc0 := 105) (pc' := 110) rfl (hb hby at_105) (by decide) (by decide) k) ?_
      show Fin _ p e below s _ _ _ T5 (mkF m 110 #[.val (.int p0), .val (.int p1), .val (.int p2), .val (.int (p0 &&& (3 : Int32))), .val (.ref x4), .val (.int (1 : Int32)), .val (.int ((1 : Int32) + ((p1 &&& (2147483647 : Int32)) % (3600 : Int32)))), .val .null, .val (.ref c5), .unset] [(.int (300 : Int32))])
      refine Fin.go (fun _ k => XS.istore X5.here hx rfl (hb hby at_110) rfl (l' := #[.val (.int p0), .val (.int p1), .val (.int p2), .val (.int (p0 &&& (3 : Int32))), .val (.ref x4), .val (.int (1 : Int32)), .val (.int ((1 : Int32) + ((p1 &&& (2147483647 : Int32)) % (3600 : Int32)))), .val .null, .val (.ref c5), .val (.int (300 : Int32))]) rfl k) ?_
      show Fin _ p e below s _ _ _ T5 (mkF m 112 #[.val (.int p0), .val (.int p1), .val (.int p2), .val (.int (p0 &&& (3 : Int32))), .val (.ref x4), .val (.int (1 : Int32)), .val (.int ((1 : Int32) + ((p1 &&& (2147483647 : Int32)) % (3600 : Int32)))), .val .null, .val (.ref c5), .val (.int (300 : Int32))] [])
      refine Fin.go (fun _ k => XS.aload X5.here hx rfl (hb hby at_112) rfl rfl k) ?_
      show Fin _ p e below s _ _ _ T5 (mkF m 114 #[.val (.int p0), .val (.int p1), .val (.int p2), .val (.int (p0 &&& (3 : Int32))), .val (.ref x4), .val (.int (1 : Int32)), .val (.int ((1 : Int32) + ((p1 &&& (2147483647 : Int32)) % (3600 : Int32)))), .val .null, .val (.ref c5), .val (.int (300 : Int32))] [(.ref c5)])
      obtain ⟨v6, T6, L6, X6, q6, st6⟩ := callVt X5 hx hZ5 (y := (⟨"com/example/kittiwake/kittiwake/core/signing/SignatureCheck", "scheme", "()Lcom/example/kittiwake/kittiwake/core/signing/SignatureScheme;"⟩ : MethodName)) hown5 (hw _ w_51) (hw _ w_52) (hw _ w_54) (hw _ w_53) (hw _ w_13) (hw _ w_55) (by decide) (W := 0) (rmSch l Z a0 hw n0 T5.heap O5 c5 x4 F15) (rfl : T5.heap = T5.heap) A5 (by decide) (by decide) (by decide) (by decide) (g := (mkF m 114 #[.val (.int p0), .val (.int p1), .val (.int p2), .val (.int (p0 &&& (3 : Int32))), .val (.ref x4), .val (.int (1 : Int32)), .val (.int ((1 : Int32) + ((p1 &&& (2147483647 : Int32)) % (3600 : Int32)))), .val .null, .val (.ref c5), .val (.int (300 : Int32))] [(.ref c5)])) rfl (by rw [hml]; rfl) (argsL := []) (rest := []) (lenOf pd_ocLcom_example_kittiwake_kittiwake_core_signing_SignatureScheme_ rfl) rfl (by show 2 * 0 + _ ≤ _; exact Nat.le_of_eq rfl) (hb hby at_114)
      obtain ⟨rfl, e6, rfl⟩ := q6
      have N6 := Fr.app N5 (Fr.nil n0)
      refine Fin.go st6 ?_
      show Fin _ p e below s _ _ _ T6 (mkF m 117 #[.val (.int p0), .val (.int p1), .val (.int p2), .val (.int (p0 &&& (3 : Int32))), .val (.ref x4), .val (.int (1 : Int32)), .val (.int ((1 : Int32) + ((p1 &&& (2147483647 : Int32)) % (3600 : Int32)))), .val .null, .val (.ref c5), .val (.int (300 : Int32))] [(.ref x4)])
      refine Fin.go (fun _ k => XS.aload X6.here hx rfl (hb hby at_117) rfl rfl k) ?_
      show Fin _ p e below s _ _ _ T6 (mkF m 119 #[.val (.int p0), .val (.int p1), .val (.int p2), .val (.int (p0 &&& (3 : Int32))), .val (.ref x4), .val (.int (1 : Int32)), .val (.int ((1 : Int32) + ((p1 &&& (2147483647 : Int32)) % (3600 : Int32)))), .val .null, .val (.ref c5), .val (.int (300 : Int32))] [(.ref x4), (.ref x4)])
      refine Fin.go (fun _ k => XT.acmpNo X6.here hx rfl (hb hby at_119) rfl rfl rfl (XT.aa_ne_f rfl) k) ?_
      show Fin _ p e below s _ _ _ T6 (mkF m 122 #[.val (.int p0), .val (.int p1), .val (.int p2), .val (.int (p0 &&& (3 : Int32))), .val (.ref x4), .val (.int (1 : Int32)), .val (.int ((1 : Int32) + ((p1 &&& (2147483647 : Int32)) % (3600 : Int32)))), .val .null, .val (.ref c5), .val (.int (300 : Int32))] [])
      refine Fin.go (fun _ k => XS.aload X6.here hx rfl (hb hby at_122) rfl rfl k) ?_
      show Fin _ p e below s _ _ _ T6 (mkF m 124 #[.val (.int p0), .val (.int p1), .val (.int p2), .val (.int (p0 &&& (3 : Int32))), .val (.ref x4), .val (.int (1 : Int32)), .val (.int ((1 : Int32) + ((p1 &&& (2147483647 : Int32)) % (3600 : Int32)))), .val .null, .val (.ref c5), .val (.int (300 : Int32))] [(.ref c5)])
      obtain ⟨v7, T7, L7, X7, q7, st7⟩ := callVt X6 hx hZ5 (y := (⟨"com/example/kittiwake/kittiwake/core/signing/SignatureCheck", "toleranceSeconds", "()I"⟩ : MethodName)) hown5 (hw _ w_56) (hw _ w_57) (hw _ w_59) (hw _ w_58) (hw _ w_13) (hw _ w_60) (by decide) (W := 0) (rmTol l Z a0 hw n0 T5.heap O5 c5 (300 : Int32) F25) e6 A5 (by decide) (by decide) (by decide) (by decide) (g := (mkF m 124 #[.val (.int p0), .val (.int p1), .val (.int p2), .val (.int (p0 &&& (3 : Int32))), .val (.ref x4), .val (.int (1 : Int32)), .val (.int ((1 : Int32) + ((p1 &&& (2147483647 : Int32)) % (3600 : Int32)))), .val .null, .val (.ref c5), .val (.int (300 : Int32))] [(.ref c5)])) rfl (by rw [hml]; rfl) (argsL := []) (rest := []) (lenOf pd_ocI rfl) rfl (by show 2 * 0 + _ ≤ _; exact Nat.le_of_eq rfl) (hb hby at_124)
      obtain ⟨rfl, e7, rfl⟩ := q7
      have N7 := Fr.app N6 (Fr.nil n0)
      refine Fin.go st7 ?_
      show Fin _ p e below s _ _ _ T7 (mkF m 127 #[.val (.int p0), .val (.int p1), .val (.int p2), .val (.int (p0 &&& (3 : Int32))), .val (.ref x4), .val (.int (1 : Int32)), .val (.int ((1 : Int32) + ((p1 &&& (2147483647 : Int32)) % (3600 : Int32)))), .val .null, .val (.ref c5), .val (.int (300 : Int32))] [(.int (300 : Int32))])
      refine Fin.go (fun _ k => XS.iload X7.here hx rfl (hb hby at_127) rfl k) ?_
      show Fin _ p e below s _ _ _ T7 (mkF m 129 #[.val (.int p0), .val (.int p1), .val (.int p2), .val (.int (p0 &&& (3 : Int32))), .val (.ref x4), .val (.int (1 : Int32)), .val (.int ((1 : Int32) + ((p1 &&& (2147483647 : Int32)) % (3600 : Int32)))), .val .null, .val (.ref c5), .val (.int (300 : Int32))] [(.int (300 : Int32)), (.int (300 : Int32))])
      refine Fin.go (fun _ k => XS.icmpNo X7.here hx rfl (hb hby at_129) rfl (XT.ii_ne_f (by decide)) k) ?_
      show Fin _ p e below s _ _ _ T7 (mkF m 132 #[.val (.int p0), .val (.int p1), .val (.int p2), .val (.int (p0 &&& (3 : Int32))), .val (.ref x4), .val (.int (1 : Int32)), .val (.int ((1 : Int32) + ((p1 &&& (2147483647 : Int32)) % (3600 : Int32)))), .val .null, .val (.ref c5), .val (.int (300 : Int32))] [])
      refine Fin.go (fun _ k => XS.iconst X7.here hx rfl (hb hby at_132) k) ?_
      show Fin _ p e below s _ _ _ T7 (mkF m 133 #[.val (.int p0), .val (.int p1), .val (.int p2), .val (.int (p0 &&& (3 : Int32))), .val (.ref x4), .val (.int (1 : Int32)), .val (.int ((1 : Int32) + ((p1 &&& (2147483647 : Int32)) % (3600 : Int32)))), .val .null, .val (.ref c5), .val (.int (300 : Int32))] [(.int (1 : Int32))])
      refine Fin.go (fun _ k => XS.goto X7.here hx rfl (pc0 := 133) (pc' := 137) rfl (hb hby at_133) (by decide) (by decide) k) ?_
      show Fin _ p e below s _ _ _ T7 (mkF m 137 #[.val (.int p0), .val (.int p1), .val (.int p2), .val (.int (p0 &&& (3 : Int32))), .val (.ref x4), .val (.int (1 : Int32)), .val (.int ((1 : Int32) + ((p1 &&& (2147483647 : Int32)) % (3600 : Int32)))), .val .null, .val (.ref c5), .val (.int (300 : Int32))] [(.int (1 : Int32))])
      exact Fin.leaveH X7 hS5 (Nat.le_refl T5.heap.size) hZ5 hEL e7 RR5 hlk (v := some (.int (nar .boolean (1 : Int32)))) (fun h => by rw [hret] at h; cases h) (by decide) (by decide) ⟨rfl, N7⟩ (fun fs hr => retN X7 hx (t := .boolean) hret (by simp) (hb hby at_137) hr)
  show Fin _ p e below s _ _ _ s₁ (mkF m 0 #[.val (.int p0), .val (.int p1), .val (.int p2), .unset, .unset, .unset, .unset, .unset, .unset, .unset] [])
  refine Fin.go (fun _ k => XS.iloadN X0.here hx rfl (hb hby at_0) rfl k) ?_
  show Fin _ p e below s _ _ _ s₁ (mkF m 1 #[.val (.int p0), .val (.int p1), .val (.int p2), .unset, .unset, .unset, .unset, .unset, .unset, .unset] [(.int p0)])
  refine Fin.go (fun _ k => XS.iconst X0.here hx rfl (hb hby at_1) k) ?_
  show Fin _ p e below s _ _ _ s₁ (mkF m 2 #[.val (.int p0), .val (.int p1), .val (.int p2), .unset, .unset, .unset, .unset, .unset, .unset, .unset] [(.int (3 : Int32)), (.int p0)])
  refine Fin.go (fun _ k => XS.iand X0.here hx rfl (hb hby at_2) rfl k) ?_
  show Fin _ p e below s _ _ _ s₁ (mkF m 3 #[.val (.int p0), .val (.int p1), .val (.int p2), .unset, .unset, .unset, .unset, .unset, .unset, .unset] [(.int (p0 &&& (3 : Int32)))])
  refine Fin.go (fun _ k => XS.istoreN X0.here hx rfl (hb hby at_3) rfl (l' := #[.val (.int p0), .val (.int p1), .val (.int p2), .val (.int (p0 &&& (3 : Int32))), .unset, .unset, .unset, .unset, .unset, .unset]) rfl k) ?_
  show Fin _ p e below s _ _ _ s₁ (mkF m 4 #[.val (.int p0), .val (.int p1), .val (.int p2), .val (.int (p0 &&& (3 : Int32))), .unset, .unset, .unset, .unset, .unset, .unset] [])
  refine Fin.go (fun _ k => XS.iloadN X0.here hx rfl (hb hby at_4) rfl k) ?_
  show Fin _ p e below s _ _ _ s₁ (mkF m 5 #[.val (.int p0), .val (.int p1), .val (.int p2), .val (.int (p0 &&& (3 : Int32))), .unset, .unset, .unset, .unset, .unset, .unset] [(.int (p0 &&& (3 : Int32)))])
  by_cases c5 : (p0 &&& (3 : Int32)) = 0
  · refine Fin.go (fun _ k => XS.ifNo X0.here hx rfl (hb hby at_5) rfl (XT.i0_ne_f c5) k) ?_
    show Fin _ p e below s _ _ _ s₁ (mkF m 8 #[.val (.int p0), .val (.int p1), .val (.int p2), .val (.int (p0 &&& (3 : Int32))), .unset, .unset, .unset, .unset, .unset, .unset] [])
    obtain ⟨T8, X8, e8, st8⟩ := getS2 X0 hx hZ hown (host := "") (Or.inl (hw _ w_0)) Via.refl e0 (S_aG.ext O.2) (g := (mkF m 8 #[.val (.int p0), .val (.int p1), .val (.int p2), .val (.int (p0 &&& (3 : Int32))), .unset, .unset, .unset, .unset, .unset, .unset] [])) rfl (hb hby at_8)
    refine Fin.go st8 ?_
    show Fin _ p e below s _ _ _ T8 (mkF m 11 #[.val (.int p0), .val (.int p1), .val (.int p2), .val (.int (p0 &&& (3 : Int32))), .unset, .unset, .unset, .unset, .unset, .unset] [(.ref aG)])
    refine Fin.go (fun _ k => XS.astore X8.here hx rfl (hb hby at_11) rfl rfl (l' := #[.val (.int p0), .val (.int p1), .val (.int p2), .val (.int (p0 &&& (3 : Int32))), .val (.ref aG), .unset, .unset, .unset, .unset, .unset]) rfl k) ?_
    show Fin _ p e below s _ _ _ T8 (mkF m 13 #[.val (.int p0), .val (.int p1), .val (.int p2), .val (.int (p0 &&& (3 : Int32))), .val (.ref aG), .unset, .unset, .unset, .unset, .unset] [])
    refine Fin.go (fun _ k => XS.goto X8.here hx rfl (pc0 := 13) (pc' := 47) rfl (hb hby at_13) (by decide) (by decide) k) ?_
    show Fin _ p e below s _ _ _ T8 (mkF m 47 #[.val (.int p0), .val (.int p1), .val (.int p2), .val (.int (p0 &&& (3 : Int32))), .val (.ref aG), .unset, .unset, .unset, .unset, .unset] [])
    exact tail aG T8 X8 e8
  · refine Fin.go (fun _ k => XS.ifYes X0.here hx rfl (pc0 := 5) (pc' := 16) rfl (hb hby at_5) rfl (XT.i0_ne_t c5) (by decide) (by decide) k) ?_
    show Fin _ p e below s _ _ _ s₁ (mkF m 16 #[.val (.int p0), .val (.int p1), .val (.int p2), .val (.int (p0 &&& (3 : Int32))), .unset, .unset, .unset, .unset, .unset, .unset] [])
    refine Fin.go (fun _ k => XS.iloadN X0.here hx rfl (hb hby at_16) rfl k) ?_
    show Fin _ p e below s _ _ _ s₁ (mkF m 17 #[.val (.int p0), .val (.int p1), .val (.int p2), .val (.int (p0 &&& (3 : Int32))), .unset, .unset, .unset, .unset, .unset, .unset] [(.int (p0 &&& (3 : Int32)))])
    refine Fin.go (fun _ k => XS.iconst X0.here hx rfl (hb hby at_17) k) ?_
    show Fin _ p e below s _ _ _ s₁ (mkF m 18 #[.val (.int p0), .val (.int p1), .val (.int p2), .val (.int (p0 &&& (3 : Int32))), .unset, .unset, .unset, .unset, .unset, .unset] [(.int (1 : Int32)), (.int (p0 &&& (3 : Int32)))])
    by_cases c18 : (p0 &&& (3 : Int32)) = (1 : Int32)
    · refine Fin.go (fun _ k => XS.icmpNo X0.here hx rfl (hb hby at_18) rfl (XT.ii_ne_f c18) k) ?_
      show Fin _ p e below s _ _ _ s₁ (mkF m 21 #[.val (.int p0), .val (.int p1), .val (.int p2), .val (.int (p0 &&& (3 : Int32))), .unset, .unset, .unset, .unset, .unset, .unset] [])
      obtain ⟨T9, X9, e9, st9⟩ := getS2 X0 hx hZ hown (host := "") (Or.inl (hw _ w_61)) Via.refl e0 (S_aS.ext O.2) (g := (mkF m 21 #[.val (.int p0), .val (.int p1), .val (.int p2), .val (.int (p0 &&& (3 : Int32))), .unset, .unset, .unset, .unset, .unset, .unset] [])) rfl (hb hby at_21)
      refine Fin.go st9 ?_
      show Fin _ p e below s _ _ _ T9 (mkF m 24 #[.val (.int p0), .val (.int p1), .val (.int p2), .val (.int (p0 &&& (3 : Int32))), .unset, .unset, .unset, .unset, .unset, .unset] [(.ref aS)])
      refine Fin.go (fun _ k => XS.astore X9.here hx rfl (hb hby at_24) rfl rfl (l' := #[.val (.int p0), .val (.int p1), .val (.int p2), .val (.int (p0 &&& (3 : Int32))), .val (.ref aS), .unset, .unset, .unset, .unset, .unset]) rfl k) ?_
      show Fin _ p e below s _ _ _ T9 (mkF m 26 #[.val (.int p0), .val (.int p1), .val (.int p2), .val (.int (p0 &&& (3 : Int32))), .val (.ref aS), .unset, .unset, .unset, .unset, .unset] [])
      refine Fin.go (fun _ k => XS.goto X9.here hx rfl (pc0 := 26) (pc' := 47) rfl (hb hby at_26) (by decide) (by decide) k) ?_
      show Fin _ p e below s _ _ _ T9 (mkF m 47 #[.val (.int p0), .val (.int p1), .val (.int p2), .val (.int (p0 &&& (3 : Int32))), .val (.ref aS), .unset, .unset, .unset, .unset, .unset] [])
      exact tail aS T9 X9 e9
    · refine Fin.go (fun _ k => XS.icmpYes X0.here hx rfl (pc0 := 18) (pc' := 29) rfl (hb hby at_18) rfl (XT.ii_ne_t c18) (by decide) (by decide) k) ?_
      show Fin _ p e below s _ _ _ s₁ (mkF m 29 #[.val (.int p0), .val (.int p1), .val (.int p2), .val (.int (p0 &&& (3 : Int32))), .unset, .unset, .unset, .unset, .unset, .unset] [])
      refine Fin.go (fun _ k => XS.iloadN X0.here hx rfl (hb hby at_29) rfl k) ?_
      show Fin _ p e below s _ _ _ s₁ (mkF m 30 #[.val (.int p0), .val (.int p1), .val (.int p2), .val (.int (p0 &&& (3 : Int32))), .unset, .unset, .unset, .unset, .unset, .unset] [(.int (p0 &&& (3 : Int32)))])
      refine Fin.go (fun _ k => XS.iconst X0.here hx rfl (hb hby at_30) k) ?_
      show Fin _ p e below s _ _ _ s₁ (mkF m 31 #[.val (.int p0), .val (.int p1), .val (.int p2), .val (.int (p0 &&& (3 : Int32))), .unset, .unset, .unset, .unset, .unset, .unset] [(.int (2 : Int32)), (.int (p0 &&& (3 : Int32)))])
      by_cases c31 : (p0 &&& (3 : Int32)) = (2 : Int32)
      · refine Fin.go (fun _ k => XS.icmpNo X0.here hx rfl (hb hby at_31) rfl (XT.ii_ne_f c31) k) ?_
        show Fin _ p e below s _ _ _ s₁ (mkF m 34 #[.val (.int p0), .val (.int p1), .val (.int p2), .val (.int (p0 &&& (3 : Int32))), .unset, .unset, .unset, .unset, .unset, .unset] [])
        obtain ⟨T10, X10, e10, st10⟩ := getS2 X0 hx hZ hown (host := "") (Or.inl (hw _ w_65)) Via.refl e0 (S_aH.ext O.2) (g := (mkF m 34 #[.val (.int p0), .val (.int p1), .val (.int p2), .val (.int (p0 &&& (3 : Int32))), .unset, .unset, .unset, .unset, .unset, .unset] [])) rfl (hb hby at_34)
        refine Fin.go st10 ?_
        show Fin _ p e below s _ _ _ T10 (mkF m 37 #[.val (.int p0), .val (.int p1), .val (.int p2), .val (.int (p0 &&& (3 : Int32))), .unset, .unset, .unset, .unset, .unset, .unset] [(.ref aH)])
        refine Fin.go (fun _ k => XS.astore X10.here hx rfl (hb hby at_37) rfl rfl (l' := #[.val (.int p0), .val (.int p1), .val (.int p2), .val (.int (p0 &&& (3 : Int32))), .val (.ref aH), .unset, .unset, .unset, .unset, .unset]) rfl k) ?_
        show Fin _ p e below s _ _ _ T10 (mkF m 39 #[.val (.int p0), .val (.int p1), .val (.int p2), .val (.int (p0 &&& (3 : Int32))), .val (.ref aH), .unset, .unset, .unset, .unset, .unset] [])
        refine Fin.go (fun _ k => XS.goto X10.here hx rfl (pc0 := 39) (pc' := 47) rfl (hb hby at_39) (by decide) (by decide) k) ?_
        show Fin _ p e below s _ _ _ T10 (mkF m 47 #[.val (.int p0), .val (.int p1), .val (.int p2), .val (.int (p0 &&& (3 : Int32))), .val (.ref aH), .unset, .unset, .unset, .unset, .unset] [])
        exact tail aH T10 X10 e10
      · refine Fin.go (fun _ k => XS.icmpYes X0.here hx rfl (pc0 := 31) (pc' := 42) rfl (hb hby at_31) rfl (XT.ii_ne_t c31) (by decide) (by decide) k) ?_
        show Fin _ p e below s _ _ _ s₁ (mkF m 42 #[.val (.int p0), .val (.int p1), .val (.int p2), .val (.int (p0 &&& (3 : Int32))), .unset, .unset, .unset, .unset, .unset, .unset] [])
        obtain ⟨T11, X11, e11, st11⟩ := getS2 X0 hx hZ hown (host := "") (Or.inl (hw _ w_63)) Via.refl e0 (S_aD.ext O.2) (g := (mkF m 42 #[.val (.int p0), .val (.int p1), .val (.int p2), .val (.int (p0 &&& (3 : Int32))), .unset, .unset, .unset, .unset, .unset, .unset] [])) rfl (hb hby at_42)
        refine Fin.go st11 ?_
        show Fin _ p e below s _ _ _ T11 (mkF m 45 #[.val (.int p0), .val (.int p1), .val (.int p2), .val (.int (p0 &&& (3 : Int32))), .unset, .unset, .unset, .unset, .unset, .unset] [(.ref aD)])
        refine Fin.go (fun _ k => XS.astore X11.here hx rfl (hb hby at_45) rfl rfl (l' := #[.val (.int p0), .val (.int p1), .val (.int p2), .val (.int (p0 &&& (3 : Int32))), .val (.ref aD), .unset, .unset, .unset, .unset, .unset]) rfl k) ?_
        show Fin _ p e below s _ _ _ T11 (mkF m 47 #[.val (.int p0), .val (.int p1), .val (.int p2), .val (.int (p0 &&& (3 : Int32))), .val (.ref aD), .unset, .unset, .unset, .unset, .unset] [])
        exact tail aD T11 X11 e11
set_option maxRecDepth 65536 in
set_option maxHeartbeats 40000000 in
theorem comes_1 {Post : Tables → Env → Array Value → State → Outcome → State → Prop} (hpost : ∀ tb e args s v u, (limb_1_1.after args s (.returned v) u = true ∧ limb_1_2.after args s (.returned v) u = true ∧ True) → ReturnedEndW s (.returned v) u (Jvm.fieldLocs frame_1_writes args s ++ Jvm.arrayLocs frame_1_arrays args s ++ Jvm.staticLocs frame_1_statics s) 16 1152 → Post tb e args s (.returned v) u) :
    ArmFor flags0 classFile x code maxLocals ret World_1 tables_1 room_1 Calls_1 rest_1 Pre_1 Post := by
  intro l hfl _ _ p e ha hc hk s m args below hf hA hF happ hP
  obtain ⟨hcalls, hrest, hpre⟩ := hP
  obtain ⟨-, -, -, hnamed, -, -, -, hat⟩ := (Spec.applies_iff hf).mp happ
  obtain ⟨hg, hn⟩ := and_e (Cond.before_iff.mp (show (Jvm.Cond.and given_1 narrow_1).before args s = true from hpre))
  obtain ⟨hcnt, hg⟩ := and_e hg
  obtain ⟨u0, u1, u2, rfl⟩ : ∃ u0 u1 u2 : Value, args = #[u0, u1, u2] := by
    have hs : args.size = 3 := by simpa [Cond.value, given_1] using hcnt
    obtain ⟨L⟩ := args
    match L, hs with
    | [u0, u1, u2], _ => exact ⟨u0, u1, u2, rfl⟩
  have hw := fun d (hd : d ∈ tables_1) => atoms_spec (ws := Jvm.Cond.code x code maxLocals ret :: tables_1) hat d (List.mem_cons_of_mem _ hd)
  have hfit : Fit s := fun {y c} hc i hi => by
    obtain ⟨ha, rfl⟩ := Array.getElem?_eq_some_iff.mp hc
    have q := List.all_eq_true.mp ((Array.all_eq_true_iff_forall_mem.mp hF) _ (Array.getElem_mem ha)) i (List.mem_range.mpr hi)
    simpa [Array.getElem?_eq_getElem hi] using q
  obtain ⟨g0, hg⟩ := and_e hg
  obtain ⟨i0, ei0⟩ := is_v g0
  obtain rfl : u0 = (.int i0) := Option.some.inj ei0
  obtain ⟨g1, hg⟩ := and_e hg
  obtain ⟨i1, ei1⟩ := is_v g1
  obtain rfl : u1 = (.int i1) := Option.some.inj ei1
  have g2 := hg
  obtain ⟨i2, ei2⟩ := is_v g2
  obtain rfl : u2 = (.int i2) := Option.some.inj ei2
  have hsets := fun (i : Nat) {w : Jvm.Cond} (h : jdkStatics_1[i]? = some w) => (atoms_of _ (rest_1_c_eq ▸ (show rest_1_c.before _ s = true from hrest))).1 w (List.mem_of_getElem? h)
  have x_aG := (and_e hn).1
  obtain ⟨aG, ev_aG⟩ := exa_v x_aG
  have A_aG := Exa.start ev_aG x_aG
  have S_aG := Sta.start ev_aG (Or.inr ⟨(hw _ w_1), (hw _ w_2)⟩)
  have x_aS := (and_e (and_e hn).2).1
  obtain ⟨aS, ev_aS⟩ := exa_v x_aS
  have A_aS := Exa.start ev_aS x_aS
  have S_aS := Sta.start ev_aS (Or.inr ⟨(hw _ w_1), (hw _ w_62)⟩)
  have x_aD := (and_e (and_e (and_e hn).2).2).1
  obtain ⟨aD, ev_aD⟩ := exa_v x_aD
  have A_aD := Exa.start ev_aD x_aD
  have S_aD := Sta.start ev_aD (Or.inr ⟨(hw _ w_1), (hw _ w_64)⟩)
  have x_aH := (and_e (and_e (and_e hn).2).2).2
  obtain ⟨aH, ev_aH⟩ := exa_v x_aH
  have A_aH := Exa.start ev_aH x_aH
  have S_aH := Sta.start ev_aH (Or.inr ⟨(hw _ w_1), (hw _ w_66)⟩)
  have ehi : (Term.static "java/lang/Integer$IntegerCache" "high" "I").eval _ s none [] s = some (.int 127) := eqv_i (F := .int 127) rfl (Cond.before_iff.mp (hsets 3 rfl))
  have S_hi := Sta.start ehi (Or.inl (hsets 1 rfl))
  obtain ⟨aK, evK⟩ := arr_v (Cond.before_iff.mp (hsets 4 rfl))
  obtain ⟨cK, AK⟩ := Arr.start evK (Cond.before_iff.mp (hsets 4 rfl))
  have S_ca := Sta.start evK (Or.inr ⟨(hw _ w_9), hsets 2 rfl⟩)
  have elen : (Term.length (.static "java/lang/Integer$IntegerCache" "cache" "[Ljava/lang/Integer;")).eval _ s none [] s = some (.int 256) := eqv_i (F := .int 256) rfl (Cond.before_iff.mp (hsets 6 rfl))
  obtain ⟨q31, q256⟩ := lenOfEval evK (AK.fin (Vm.Alike.refl _)) elen
  have B : Bxs s aK cK "java/lang/Integer" "I" 256 (fun j => .int (j - 128)) := Bxs.start (fun _ => evK) AK q31 q256 (by decide) (Cond.before_iff.mp (hsets 7 rfl)) (fun X j hj h => eqv_i (subIdx hj) h)
  have hCH : CHv s EL s.vm s.heap := fun p hp => by cases hp
  obtain ⟨n, o, h1, h2, h3, _, L, rfl, ⟨rfl, N⟩, -, hq⟩ := law l s _ hw s.heap.size s.heap (Old.start s) i0 i1 i2 S_hi aK cK S_ca B aG aS aH aD S_aG S_aS S_aH S_aD p e ha hc hk s m _ below hf ((Spec.applies_iff_loose hf).mp happ).1 ⟨rfl, State.Warmed39.refl s, rfl, hCH⟩ trivial
  refine ⟨n, _, h1, h2, h3, hpost _ _ _ _ _ _ ⟨Cond.after_iff.mpr rfl, Cond.after_iff.mpr (eq_i res_at (Term.int_eval (1)) rfl), trivial⟩ ⟨hq.1, hq.2.1, hq.2.2.1, (hq.2.2.2.sift fun y hy => Or.inr (N y hy)).mono (by decide) (by decide)⟩⟩
theorem main_1_1 : Claimed_1_1 := comes_1 fun _ _ _ _ _ _ h hF => ⟨h.1, hF⟩
theorem main_1_2 : Claimed_1_2 := comes_1 fun _ _ _ _ _ _ h hF => ⟨h.2.1, hF⟩
end Jvm.Pilot.@@N@@
namespace Jvm.Pilot.@@N@@
open Jvm Jvm.ClassFile Sem Op Lib Jvm.Free Jvm.Stand Jvm.Pilot.@@N@@.Jvm.D
/-! MADE BY PROGRAM (witnessworld.py) out of the Statement's table words and the real class files: 22 classes; the members and pool entries that the words name. The judged class is class 1, her method 1. -/
namespace start1
open Jvm.ClassFile
def u (s : String) : CpInfo := .utf8 (stringToUtf16 s)
/-- a pool by its gaps: so many unusable entries, then the entry; so many at the end -/
def gap : Nat → List CpInfo → List CpInfo
  | 0, r => r
  | n + 1, r => .unusable :: gap n r
def poolList (es : List (Nat × CpInfo)) (last : Nat) : List CpInfo := es.foldr (fun e r => gap e.1 (e.2 :: r)) (gap last [])
def pool (es : List (Nat × CpInfo)) (last : Nat) : Array CpInfo := ⟨poolList es last⟩
def fileOf (pool : Array CpInfo) (this : Nat) (attrs : Array Attribute := #[]) (ms : Array MethodInfo := #[]) (fl : Nat := 33) (sup : Nat := 0) (ifs : Array Nat := #[]) (fds : Array FieldInfo := #[]) : ClassFile where
  minorVersion := 0
  majorVersion := 65
  constantPool := pool
  accessFlags := fl
  thisClass := this
  superClass := sup
  interfaces := ifs
  fields := fds
  methods := ms
  attributes := attrs
def plain (name : String) (sup : Option ClassId) : Class where
  name := name
  kind := .ordinary
  loader := none
  accessFlags := 33
  super := sup
  interfaces := #[]
  cf := none
  fields := #[]
  methods := #[]
  instanceTypes := #[]
  staticTypes := #[]
  resolved := #[]
  callSites := []
  init := .initialized
  statics := none
  mirror := none

def pool0 : Array CpInfo := pool [(5, u "<init>"), (0, u "()V"), (1, .class_ 10), (1, u "java/lang/Object")] 113

def k0c0 : Code := { maxStack := 0, maxLocals := 1, code := object_method_1_code, exceptionTable := #[], attributes := #[] }
def k0m0 : Method := { name := "<init>", desc := "()V", sig := { parameters := [], returnType := none }, accessFlags := 1, code := some k0c0 }
/-- java/lang/Object -/
def k0 : Class := { plain "java/lang/Object" none with
  accessFlags := 33
  interfaces := #[]
  cf := some (fileOf pool0 8 #[] #[{ accessFlags := 1, nameIndex := 5, descriptorIndex := 6, attributes := #[] }] 33 0 #[] #[])
  fields := #[]
  methods := #[k0m0]
  instanceTypes := #[]
  staticTypes := #[]
  resolved := Array.replicate 124 none
  statics := none }

def pool1 : Array CpInfo := pool [(2, .class_ 4), (1, u "java/lang/Object"), (0, u "<init>"), (0, u "()V"), (0, .fieldref 8 9), (0, .class_ 10), (0, .nameAndType 11 12), (0, u "com/example/kittiwake/kittiwake/core/signing/SignatureScheme"), (0, u "GITHUB"), (0, u "Lcom/example/kittiwake/kittiwake/core/signing/SignatureScheme;"), (0, .fieldref 8 14), (0, .nameAndType 15 12), (0, u "STRIPE"), (0, .fieldref 8 17), (0, .nameAndType 18 12), (0, u "SHOPIFY"), (0, .fieldref 8 20), (0, .nameAndType 21 12), (0, u "STANDARD"), (0, .integer 2147483647), (0, .methodref 24 25), (0, .class_ 26), (0, .nameAndType 27 28), (0, u "java/lang/Integer"), (0, u "valueOf"), (0, u "(I)Ljava/lang/Integer;"), (0, .methodref 30 31), (0, .class_ 32), (0, .nameAndType 33 34), (0, u "com/example/kittiwake/kittiwake/core/signing/SignatureCheck"), (0, u "withDefaults"), (0, u "(Lcom/example/kittiwake/kittiwake/core/signing/SignatureScheme;Ljava/lang/Integer;)Lcom/example/kittiwake/kittiwake/core/signing/SignatureCheck;"), (0, .methodref 30 36), (0, .nameAndType 37 38), (0, u "scheme"), (0, u "()Lcom/example/kittiwake/kittiwake/core/signing/SignatureScheme;"), (0, .methodref 30 40), (0, .nameAndType 41 42), (0, u "toleranceSeconds"), (0, u "()I"), (0, .class_ 44), (0, u "com/example/kittiwake/kittiwake/core/signing/SignatureCheckWithDefaultsPinLaw"), (2, u "law"), (0, u "(III)Z")] 3

def k1m0 : Method := { name := "<init>", desc := "()V", sig := { parameters := [], returnType := none }, accessFlags := 1, code := none }
def k1c1 : Code := { maxStack := 3, maxLocals := 10, code := code, exceptionTable := #[], attributes := #[] }
def k1m1 : Method := { name := "law", desc := "(III)Z", sig := { parameters := [.int, .int, .int], returnType := some .boolean }, accessFlags := 9, code := some k1c1 }
/-- com/example/kittiwake/kittiwake/core/signing/SignatureCheckWithDefaultsPinLaw -/
def k1 : Class := { plain "com/example/kittiwake/kittiwake/core/signing/SignatureCheckWithDefaultsPinLaw" (some 0) with
  accessFlags := 49
  interfaces := #[]
  cf := some (fileOf pool1 43 #[] #[{ accessFlags := 1, nameIndex := 5, descriptorIndex := 6, attributes := #[] }, { accessFlags := 9, nameIndex := 47, descriptorIndex := 48, attributes := #[] }] 49 2 #[] #[])
  fields := #[]
  methods := #[k1m0, k1m1]
  instanceTypes := #[]
  staticTypes := #[]
  resolved := Array.replicate 52 none
  statics := none }

def pool2 : Array CpInfo := pool [(1, .class_ 2), (0, u "java/lang/constant/Constable"), (0, .class_ 4), (0, u "java/lang/Object")] 6

/-- java/lang/constant/Constable -/
def k2 : Class := { plain "java/lang/constant/Constable" (some 0) with
  accessFlags := 1537
  interfaces := #[]
  cf := some (fileOf pool2 1 #[] #[] 1537 3 #[] #[])
  fields := #[]
  methods := #[]
  instanceTypes := #[]
  staticTypes := #[]
  resolved := Array.replicate 11 none
  statics := none }

def pool3 : Array CpInfo := pool [(1, .class_ 2), (0, u "java/lang/Comparable"), (0, .class_ 4), (0, u "java/lang/Object")] 7

/-- java/lang/Comparable -/
def k3 : Class := { plain "java/lang/Comparable" (some 0) with
  accessFlags := 1537
  interfaces := #[]
  cf := some (fileOf pool3 1 #[] #[] 1537 3 #[] #[])
  fields := #[]
  methods := #[]
  instanceTypes := #[]
  staticTypes := #[]
  resolved := Array.replicate 12 none
  statics := none }

def pool4 : Array CpInfo := pool [(1, .class_ 2), (0, u "java/io/Serializable"), (0, .class_ 4), (0, u "java/lang/Object")] 2

/-- java/io/Serializable -/
def k4 : Class := { plain "java/io/Serializable" (some 0) with
  accessFlags := 1537
  interfaces := #[]
  cf := some (fileOf pool4 1 #[] #[] 1537 3 #[] #[])
  fields := #[]
  methods := #[]
  instanceTypes := #[]
  staticTypes := #[]
  resolved := Array.replicate 7 none
  statics := none }

def pool5 : Array CpInfo := pool [(2, .class_ 4), (1, u "java/lang/Enum"), (0, u "name"), (0, u "Ljava/lang/String;"), (2, u "ordinal"), (0, u "I"), (1, .class_ 14), (1, u "java/lang/Object"), (4, u "hash"), (86, .class_ 108), (1, u "java/lang/Enum$EnumDesc"), (2, .class_ 112), (0, u "java/lang/constant/Constable"), (0, .class_ 114), (0, u "java/lang/Comparable"), (0, .class_ 116), (0, u "java/io/Serializable")] 87

/-- java/lang/Enum -/
def k5 : Class := { plain "java/lang/Enum" (some 0) with
  accessFlags := 1057
  interfaces := #[2, 3, 4]
  cf := some (fileOf pool5 2 #[.nestMembers #[106]] #[] 1057 12 #[111, 113, 115] #[{ accessFlags := 18, nameIndex := 5, descriptorIndex := 6, attributes := #[] }, { accessFlags := 18, nameIndex := 9, descriptorIndex := 10, attributes := #[] }, { accessFlags := 2, nameIndex := 19, descriptorIndex := 10, attributes := #[] }])
  fields := #[{ name := "name", type := (.object "java/lang/String"), accessFlags := 18, slot := 0, constantValue := 0 }, { name := "ordinal", type := .int, accessFlags := 18, slot := 1, constantValue := 0 }, { name := "hash", type := .int, accessFlags := 2, slot := 2, constantValue := 0 }]
  methods := #[]
  instanceTypes := #[(.object "java/lang/String"), .int, .int]
  staticTypes := #[]
  resolved := Array.replicate 204 none
  statics := none }

def pool6 : Array CpInfo := pool [(1, .class_ 2), (0, u "com/example/kittiwake/kittiwake/core/signing/SignatureScheme"), (2, u "GITHUB"), (0, u "Lcom/example/kittiwake/kittiwake/core/signing/SignatureScheme;"), (2, u "STRIPE"), (2, u "SHOPIFY"), (2, u "STANDARD"), (2, u "$VALUES"), (0, u "[Lcom/example/kittiwake/kittiwake/core/signing/SignatureScheme;"), (6, .class_ 28), (1, u "java/lang/Enum")] 46

/-- com/example/kittiwake/kittiwake/core/signing/SignatureScheme -/
def k6 : Class := { plain "com/example/kittiwake/kittiwake/core/signing/SignatureScheme" (some 5) with
  accessFlags := 16433
  interfaces := #[]
  cf := some (fileOf pool6 1 #[] #[] 16433 26 #[] #[{ accessFlags := 16409, nameIndex := 5, descriptorIndex := 6, attributes := #[] }, { accessFlags := 16409, nameIndex := 9, descriptorIndex := 6, attributes := #[] }, { accessFlags := 16409, nameIndex := 12, descriptorIndex := 6, attributes := #[] }, { accessFlags := 16409, nameIndex := 15, descriptorIndex := 6, attributes := #[] }, { accessFlags := 4122, nameIndex := 18, descriptorIndex := 19, attributes := #[] }])
  fields := #[{ name := "GITHUB", type := (.object "com/example/kittiwake/kittiwake/core/signing/SignatureScheme"), accessFlags := 16409, slot := 0, constantValue := 0 }, { name := "STRIPE", type := (.object "com/example/kittiwake/kittiwake/core/signing/SignatureScheme"), accessFlags := 16409, slot := 1, constantValue := 0 }, { name := "SHOPIFY", type := (.object "com/example/kittiwake/kittiwake/core/signing/SignatureScheme"), accessFlags := 16409, slot := 2, constantValue := 0 }, { name := "STANDARD", type := (.object "com/example/kittiwake/kittiwake/core/signing/SignatureScheme"), accessFlags := 16409, slot := 3, constantValue := 0 }, { name := "$VALUES", type := (.array (.object "com/example/kittiwake/kittiwake/core/signing/SignatureScheme")), accessFlags := 4122, slot := 4, constantValue := 0 }]
  methods := #[]
  instanceTypes := #[(.object "java/lang/String"), .int, .int]
  staticTypes := #[(.object "com/example/kittiwake/kittiwake/core/signing/SignatureScheme"), (.object "com/example/kittiwake/kittiwake/core/signing/SignatureScheme"), (.object "com/example/kittiwake/kittiwake/core/signing/SignatureScheme"), (.object "com/example/kittiwake/kittiwake/core/signing/SignatureScheme"), (.array (.object "com/example/kittiwake/kittiwake/core/signing/SignatureScheme"))]
  resolved := Array.replicate 75 none
  statics := some 0 }

def pool7 : Array CpInfo := pool [(1, .methodref 2 3), (0, .class_ 4), (0, .nameAndType 5 6), (0, u "java/lang/Object"), (0, u "<init>"), (0, u "()V"), (1, .class_ 10), (1, u "java/lang/Number"), (2, .class_ 14), (0, u "java/io/Serializable"), (0, u "serialVersionUID"), (0, u "J")] 20

def k7c0 : Code := { maxStack := 1, maxLocals := 1, code := jdk_18_method_1_code, exceptionTable := #[], attributes := #[] }
def k7m0 : Method := { name := "<init>", desc := "()V", sig := { parameters := [], returnType := none }, accessFlags := 1, code := some k7c0 }
/-- java/lang/Number -/
def k7 : Class := { plain "java/lang/Number" (some 0) with
  accessFlags := 1057
  interfaces := #[4]
  cf := some (fileOf pool7 8 #[] #[{ accessFlags := 1, nameIndex := 5, descriptorIndex := 6, attributes := #[] }] 1057 2 #[13] #[{ accessFlags := 26, nameIndex := 15, descriptorIndex := 16, attributes := #[] }])
  fields := #[{ name := "serialVersionUID", type := .long, accessFlags := 26, slot := 0, constantValue := 0 }]
  methods := #[k7m0]
  instanceTypes := #[]
  staticTypes := #[.long]
  resolved := Array.replicate 37 none
  statics := none }

def pool8 : Array CpInfo := pool [(1, .class_ 2), (0, u "java/lang/constant/ConstantDesc"), (0, .class_ 4), (0, u "java/lang/Object")] 32

/-- java/lang/constant/ConstantDesc -/
def k8 : Class := { plain "java/lang/constant/ConstantDesc" (some 0) with
  accessFlags := 1537
  interfaces := #[]
  cf := some (fileOf pool8 1 #[] #[] 1537 3 #[] #[])
  fields := #[]
  methods := #[]
  instanceTypes := #[]
  staticTypes := #[]
  resolved := Array.replicate 37 none
  statics := none }

def pool9 : Array CpInfo := pool [(1, .class_ 2), (0, u "java/lang/Integer"), (16, u "digits"), (0, u "[C"), (46, u "<init>"), (17, u "DigitOnes"), (0, u "[B"), (2, u "DigitTens"), (10, .nameAndType 67 101), (0, u "()V"), (19, u "()I"), (65, u "valueOf"), (0, u "(I)Ljava/lang/Integer;"), (0, .class_ 190), (0, u "java/lang/Integer$IntegerCache"), (0, .fieldref 189 192), (0, .nameAndType 193 194), (0, u "high"), (0, u "I"), (0, .fieldref 189 196), (0, .nameAndType 197 198), (0, u "cache"), (0, u "[Ljava/lang/Integer;"), (0, .methodref 1 200), (0, .nameAndType 67 201), (0, u "(I)V"), (0, .methodref 203 100), (0, .class_ 204), (0, u "java/lang/Number"), (0, .fieldref 1 206), (0, .nameAndType 207 194), (0, u "value"), (5, u "intValue"), (88, u "TYPE"), (0, u "Ljava/lang/Class;"), (0, .class_ 305), (0, u "java/lang/Comparable"), (0, .class_ 307), (0, u "java/lang/constant/Constable"), (0, .class_ 309), (0, u "java/lang/constant/ConstantDesc"), (0, u "MIN_VALUE"), (1, u "MAX_VALUE"), (3, u "SIZE"), (1, u "BYTES"), (1, u "serialVersionUID"), (0, u "J")] 131

def k9c0 : Code := { maxStack := 3, maxLocals := 1, code := jdk_33_method_22_code, exceptionTable := #[], attributes := #[] }
def k9m0 : Method := { name := "valueOf", desc := "(I)Ljava/lang/Integer;", sig := { parameters := [.int], returnType := some (.object "java/lang/Integer") }, accessFlags := 9, code := some k9c0 }
def k9c1 : Code := { maxStack := 2, maxLocals := 2, code := jdk_33_method_23_code, exceptionTable := #[], attributes := #[] }
def k9m1 : Method := { name := "<init>", desc := "(I)V", sig := { parameters := [.int], returnType := none }, accessFlags := 1, code := some k9c1 }
def k9c2 : Code := { maxStack := 1, maxLocals := 1, code := jdk_33_method_27_code, exceptionTable := #[], attributes := #[] }
def k9m2 : Method := { name := "intValue", desc := "()I", sig := { parameters := [], returnType := some .int }, accessFlags := 1, code := some k9c2 }
/-- java/lang/Integer -/
def k9 : Class := { plain "java/lang/Integer" (some 7) with
  accessFlags := 49
  interfaces := #[3, 2, 8]
  cf := some (fileOf pool9 1 #[.nestMembers #[189]] #[{ accessFlags := 9, nameIndex := 187, descriptorIndex := 188, attributes := #[] }, { accessFlags := 1, nameIndex := 67, descriptorIndex := 201, attributes := #[] }, { accessFlags := 1, nameIndex := 213, descriptorIndex := 121, attributes := #[] }] 49 203 #[304, 306, 308] #[{ accessFlags := 25, nameIndex := 310, descriptorIndex := 194, attributes := #[] }, { accessFlags := 25, nameIndex := 312, descriptorIndex := 194, attributes := #[] }, { accessFlags := 25, nameIndex := 302, descriptorIndex := 303, attributes := #[] }, { accessFlags := 24, nameIndex := 19, descriptorIndex := 20, attributes := #[] }, { accessFlags := 24, nameIndex := 89, descriptorIndex := 86, attributes := #[] }, { accessFlags := 24, nameIndex := 85, descriptorIndex := 86, attributes := #[] }, { accessFlags := 18, nameIndex := 207, descriptorIndex := 194, attributes := #[] }, { accessFlags := 25, nameIndex := 316, descriptorIndex := 194, attributes := #[] }, { accessFlags := 25, nameIndex := 318, descriptorIndex := 194, attributes := #[] }, { accessFlags := 26, nameIndex := 320, descriptorIndex := 321, attributes := #[] }])
  fields := #[{ name := "MIN_VALUE", type := .int, accessFlags := 25, slot := 0, constantValue := 0 }, { name := "MAX_VALUE", type := .int, accessFlags := 25, slot := 1, constantValue := 0 }, { name := "TYPE", type := (.object "java/lang/Class"), accessFlags := 25, slot := 2, constantValue := 0 }, { name := "digits", type := (.array .char), accessFlags := 24, slot := 3, constantValue := 0 }, { name := "DigitTens", type := (.array .byte), accessFlags := 24, slot := 4, constantValue := 0 }, { name := "DigitOnes", type := (.array .byte), accessFlags := 24, slot := 5, constantValue := 0 }, { name := "value", type := .int, accessFlags := 18, slot := 0, constantValue := 0 }, { name := "SIZE", type := .int, accessFlags := 25, slot := 6, constantValue := 0 }, { name := "BYTES", type := .int, accessFlags := 25, slot := 7, constantValue := 0 }, { name := "serialVersionUID", type := .long, accessFlags := 26, slot := 8, constantValue := 0 }]
  methods := #[k9m0, k9m1, k9m2]
  instanceTypes := #[.int]
  staticTypes := #[.int, .int, (.object "java/lang/Class"), (.array .char), (.array .byte), (.array .byte), .int, .int, .long]
  resolved := Array.replicate 453 none
  statics := none }

def pool10 : Array CpInfo := pool [(2, .class_ 4), (1, u "java/lang/Object"), (0, u "<init>"), (0, u "()V"), (0, .class_ 8), (0, u "java/lang/Integer"), (7, .class_ 18), (1, u "java/lang/Integer$IntegerCache"), (0, u "$assertionsDisabled"), (0, u "Z"), (26, u "high"), (0, u "I"), (8, u "archivedCache"), (0, u "[Ljava/lang/Integer;"), (12, u "cache"), (0, u "low")] 27

def k10m0 : Method := { name := "<init>", desc := "()V", sig := { parameters := [], returnType := none }, accessFlags := 2, code := none }
/-- java/lang/Integer$IntegerCache -/
def k10 : Class := { plain "java/lang/Integer$IntegerCache" (some 0) with
  accessFlags := 48
  interfaces := #[]
  cf := some (fileOf pool10 16 #[.nestHost 7] #[{ accessFlags := 2, nameIndex := 5, descriptorIndex := 6, attributes := #[] }] 48 2 #[] #[{ accessFlags := 24, nameIndex := 72, descriptorIndex := 48, attributes := #[] }, { accessFlags := 24, nameIndex := 47, descriptorIndex := 48, attributes := #[] }, { accessFlags := 24, nameIndex := 71, descriptorIndex := 58, attributes := #[] }, { accessFlags := 8, nameIndex := 57, descriptorIndex := 58, attributes := #[] }, { accessFlags := 4120, nameIndex := 19, descriptorIndex := 20, attributes := #[] }])
  fields := #[{ name := "low", type := .int, accessFlags := 24, slot := 0, constantValue := 0 }, { name := "high", type := .int, accessFlags := 24, slot := 1, constantValue := 0 }, { name := "cache", type := (.array (.object "java/lang/Integer")), accessFlags := 24, slot := 2, constantValue := 0 }, { name := "archivedCache", type := (.array (.object "java/lang/Integer")), accessFlags := 8, slot := 3, constantValue := 0 }, { name := "$assertionsDisabled", type := .boolean, accessFlags := 4120, slot := 4, constantValue := 0 }]
  methods := #[k10m0]
  instanceTypes := #[]
  staticTypes := #[.int, .int, (.array (.object "java/lang/Integer")), (.array (.object "java/lang/Integer")), .boolean]
  resolved := Array.replicate 100 none
  statics := some 1 }

def pool11 : Array CpInfo := pool [(1, .methodref 2 3), (0, .class_ 4), (0, .nameAndType 5 6), (0, u "java/lang/Object"), (0, u "<init>"), (0, u "()V"), (0, .class_ 8), (0, u "java/lang/Record")] 13

def k11c0 : Code := { maxStack := 1, maxLocals := 1, code := jdk_30_method_1_code, exceptionTable := #[], attributes := #[] }
def k11m0 : Method := { name := "<init>", desc := "()V", sig := { parameters := [], returnType := none }, accessFlags := 4, code := some k11c0 }
/-- java/lang/Record -/
def k11 : Class := { plain "java/lang/Record" (some 0) with
  accessFlags := 1057
  interfaces := #[]
  cf := some (fileOf pool11 7 #[] #[{ accessFlags := 4, nameIndex := 5, descriptorIndex := 6, attributes := #[] }] 1057 2 #[] #[])
  fields := #[]
  methods := #[k11m0]
  instanceTypes := #[]
  staticTypes := #[]
  resolved := Array.replicate 22 none
  statics := none }

def pool12 : Array CpInfo := pool [(1, .methodref 2 3), (0, .class_ 4), (0, .nameAndType 5 6), (0, u "java/lang/Record"), (0, u "<init>"), (0, u "()V"), (0, .string 8), (0, u "scheme"), (0, .methodref 10 11), (0, .class_ 12), (0, .nameAndType 13 14), (0, u "java/util/Objects"), (0, u "requireNonNull"), (0, u "(Ljava/lang/Object;Ljava/lang/String;)Ljava/lang/Object;"), (0, .class_ 16), (0, u "com/example/kittiwake/kittiwake/core/signing/SignatureCheck"), (7, .fieldref 15 25), (0, .nameAndType 8 26), (0, u "Lcom/example/kittiwake/kittiwake/core/signing/SignatureScheme;"), (0, .fieldref 15 28), (0, .nameAndType 29 30), (0, u "toleranceSeconds"), (0, u "I"), (0, .methodref 32 33), (0, .class_ 34), (0, .nameAndType 35 36), (0, u "java/lang/Integer"), (0, u "intValue"), (0, u "()I"), (0, .methodref 15 38), (0, .nameAndType 5 39), (0, u "(Lcom/example/kittiwake/kittiwake/core/signing/SignatureScheme;I)V"), (12, u "DEFAULT_TOLERANCE_SECONDS"), (2, u "MAX_TOLERANCE_SECONDS"), (7, u "withDefaults"), (0, u "(Lcom/example/kittiwake/kittiwake/core/signing/SignatureScheme;Ljava/lang/Integer;)Lcom/example/kittiwake/kittiwake/core/signing/SignatureCheck;"), (2, u "()Lcom/example/kittiwake/kittiwake/core/signing/SignatureScheme;")] 21

def k12c0 : Code := { maxStack := 3, maxLocals := 3, code := prog_15_method_1_code, exceptionTable := #[], attributes := #[] }
def k12m0 : Method := { name := "<init>", desc := "(Lcom/example/kittiwake/kittiwake/core/signing/SignatureScheme;I)V", sig := { parameters := [(.object "com/example/kittiwake/kittiwake/core/signing/SignatureScheme"), .int], returnType := none }, accessFlags := 1, code := some k12c0 }
def k12c1 : Code := { maxStack := 4, maxLocals := 2, code := prog_15_method_2_code, exceptionTable := #[], attributes := #[] }
def k12m1 : Method := { name := "withDefaults", desc := "(Lcom/example/kittiwake/kittiwake/core/signing/SignatureScheme;Ljava/lang/Integer;)Lcom/example/kittiwake/kittiwake/core/signing/SignatureCheck;", sig := { parameters := [(.object "com/example/kittiwake/kittiwake/core/signing/SignatureScheme"), (.object "java/lang/Integer")], returnType := some (.object "com/example/kittiwake/kittiwake/core/signing/SignatureCheck") }, accessFlags := 9, code := some k12c1 }
def k12c2 : Code := { maxStack := 1, maxLocals := 1, code := prog_15_method_6_code, exceptionTable := #[], attributes := #[] }
def k12m2 : Method := { name := "scheme", desc := "()Lcom/example/kittiwake/kittiwake/core/signing/SignatureScheme;", sig := { parameters := [], returnType := some (.object "com/example/kittiwake/kittiwake/core/signing/SignatureScheme") }, accessFlags := 1, code := some k12c2 }
def k12c3 : Code := { maxStack := 1, maxLocals := 1, code := prog_15_method_7_code, exceptionTable := #[], attributes := #[] }
def k12m3 : Method := { name := "toleranceSeconds", desc := "()I", sig := { parameters := [], returnType := some .int }, accessFlags := 1, code := some k12c3 }
/-- com/example/kittiwake/kittiwake/core/signing/SignatureCheck -/
def k12 : Class := { plain "com/example/kittiwake/kittiwake/core/signing/SignatureCheck" (some 11) with
  accessFlags := 49
  interfaces := #[]
  cf := some (fileOf pool12 15 #[] #[{ accessFlags := 1, nameIndex := 5, descriptorIndex := 39, attributes := #[] }, { accessFlags := 9, nameIndex := 63, descriptorIndex := 64, attributes := #[] }, { accessFlags := 1, nameIndex := 8, descriptorIndex := 67, attributes := #[] }, { accessFlags := 1, nameIndex := 29, descriptorIndex := 36, attributes := #[] }] 49 2 #[] #[{ accessFlags := 18, nameIndex := 8, descriptorIndex := 26, attributes := #[] }, { accessFlags := 18, nameIndex := 29, descriptorIndex := 30, attributes := #[] }, { accessFlags := 25, nameIndex := 52, descriptorIndex := 30, attributes := #[] }, { accessFlags := 25, nameIndex := 55, descriptorIndex := 30, attributes := #[] }])
  fields := #[{ name := "scheme", type := (.object "com/example/kittiwake/kittiwake/core/signing/SignatureScheme"), accessFlags := 18, slot := 0, constantValue := 0 }, { name := "toleranceSeconds", type := .int, accessFlags := 18, slot := 1, constantValue := 0 }, { name := "DEFAULT_TOLERANCE_SECONDS", type := .int, accessFlags := 25, slot := 0, constantValue := 0 }, { name := "MAX_TOLERANCE_SECONDS", type := .int, accessFlags := 25, slot := 1, constantValue := 0 }]
  methods := #[k12m0, k12m1, k12m2, k12m3]
  instanceTypes := #[(.object "com/example/kittiwake/kittiwake/core/signing/SignatureScheme"), .int]
  staticTypes := #[.int, .int]
  resolved := Array.replicate 89 none
  statics := none }

def pool13 : Array CpInfo := pool [(2, .class_ 4), (1, u "java/lang/CharSequence"), (42, .class_ 48), (0, u "java/lang/CharSequence$1CodePointIterator"), (10, .class_ 60), (0, u "java/lang/CharSequence$1CharIterator"), (5, .class_ 67), (0, u "java/lang/Object")] 63

/-- java/lang/CharSequence -/
def k13 : Class := { plain "java/lang/CharSequence" (some 0) with
  accessFlags := 1537
  interfaces := #[]
  cf := some (fileOf pool13 2 #[.nestMembers #[47, 59]] #[] 1537 66 #[] #[])
  fields := #[]
  methods := #[]
  instanceTypes := #[]
  staticTypes := #[]
  resolved := Array.replicate 131 none
  statics := none }

def pool14 : Array CpInfo := pool [(2, .class_ 4), (1, u "java/lang/Object"), (0, u "<init>"), (0, u "()V"), (3, .class_ 12), (1, u "java/lang/String"), (0, u "value"), (0, u "[B"), (2, u "coder"), (0, u "B"), (2, u "hash"), (0, u "I"), (2, u "hashIsZero"), (0, u "Z"), (13, u "COMPACT_STRINGS"), (534, .class_ 576), (0, u "java/lang/CharSequence"), (22, u "CASE_INSENSITIVE_ORDER"), (0, u "Ljava/util/Comparator;"), (500, u "serialPersistentFields"), (0, u "[Ljava/io/ObjectStreamField;"), (0, .class_ 1104), (0, u "java/lang/String$CaseInsensitiveComparator"), (1, .class_ 1107), (0, u "java/io/Serializable"), (0, .class_ 1109), (0, u "java/lang/Comparable"), (0, .class_ 1111), (0, u "java/lang/constant/Constable"), (0, .class_ 1113), (0, u "java/lang/constant/ConstantDesc"), (2, u "serialVersionUID"), (0, u "J"), (3, u "REPL"), (0, u "C"), (2, u "LATIN1"), (1, u "UTF16")] 323

def k14m0 : Method := { name := "<init>", desc := "()V", sig := { parameters := [], returnType := none }, accessFlags := 1, code := none }
/-- java/lang/String -/
def k14 : Class := { plain "java/lang/String" (some 0) with
  accessFlags := 49
  interfaces := #[4, 3, 13, 2, 8]
  cf := some (fileOf pool14 10 #[.nestMembers #[1103]] #[{ accessFlags := 1, nameIndex := 5, descriptorIndex := 6, attributes := #[] }] 49 2 #[1106, 1108, 575, 1110, 1112] #[{ accessFlags := 18, nameIndex := 13, descriptorIndex := 14, attributes := #[] }, { accessFlags := 18, nameIndex := 17, descriptorIndex := 18, attributes := #[] }, { accessFlags := 2, nameIndex := 21, descriptorIndex := 22, attributes := #[] }, { accessFlags := 2, nameIndex := 25, descriptorIndex := 26, attributes := #[] }, { accessFlags := 26, nameIndex := 1116, descriptorIndex := 1117, attributes := #[] }, { accessFlags := 24, nameIndex := 40, descriptorIndex := 26, attributes := #[] }, { accessFlags := 26, nameIndex := 1101, descriptorIndex := 1102, attributes := #[] }, { accessFlags := 26, nameIndex := 1121, descriptorIndex := 1122, attributes := #[] }, { accessFlags := 25, nameIndex := 599, descriptorIndex := 600, attributes := #[] }, { accessFlags := 24, nameIndex := 1125, descriptorIndex := 18, attributes := #[] }, { accessFlags := 24, nameIndex := 1127, descriptorIndex := 18, attributes := #[] }])
  fields := #[{ name := "value", type := (.array .byte), accessFlags := 18, slot := 0, constantValue := 0 }, { name := "coder", type := .byte, accessFlags := 18, slot := 1, constantValue := 0 }, { name := "hash", type := .int, accessFlags := 2, slot := 2, constantValue := 0 }, { name := "hashIsZero", type := .boolean, accessFlags := 2, slot := 3, constantValue := 0 }, { name := "serialVersionUID", type := .long, accessFlags := 26, slot := 0, constantValue := 0 }, { name := "COMPACT_STRINGS", type := .boolean, accessFlags := 24, slot := 1, constantValue := 0 }, { name := "serialPersistentFields", type := (.array (.object "java/io/ObjectStreamField")), accessFlags := 26, slot := 2, constantValue := 0 }, { name := "REPL", type := .char, accessFlags := 26, slot := 3, constantValue := 0 }, { name := "CASE_INSENSITIVE_ORDER", type := (.object "java/util/Comparator"), accessFlags := 25, slot := 4, constantValue := 0 }, { name := "LATIN1", type := .byte, accessFlags := 24, slot := 5, constantValue := 0 }, { name := "UTF16", type := .byte, accessFlags := 24, slot := 6, constantValue := 0 }]
  methods := #[k14m0]
  instanceTypes := #[(.array .byte), .byte, .int, .boolean]
  staticTypes := #[.long, .boolean, (.array (.object "java/io/ObjectStreamField")), .char, (.object "java/util/Comparator"), .byte, .byte]
  resolved := Array.replicate 1451 none
  statics := none }

def pool15 : Array CpInfo := pool [(2, .class_ 4), (1, u "java/lang/Object"), (0, u "<init>"), (0, u "()V"), (35, .class_ 44), (1, u "java/util/Objects"), (0, u "requireNonNull"), (48, u "(Ljava/lang/Object;Ljava/lang/String;)Ljava/lang/Object;")] 89

def k15m0 : Method := { name := "<init>", desc := "()V", sig := { parameters := [], returnType := none }, accessFlags := 2, code := none }
def k15c1 : Code := { maxStack := 3, maxLocals := 2, code := jdk_31_method_11_code, exceptionTable := #[], attributes := #[] }
def k15m1 : Method := { name := "requireNonNull", desc := "(Ljava/lang/Object;Ljava/lang/String;)Ljava/lang/Object;", sig := { parameters := [(.object "java/lang/Object"), (.object "java/lang/String")], returnType := some (.object "java/lang/Object") }, accessFlags := 9, code := some k15c1 }
/-- java/util/Objects -/
def k15 : Class := { plain "java/util/Objects" (some 0) with
  accessFlags := 49
  interfaces := #[]
  cf := some (fileOf pool15 42 #[] #[{ accessFlags := 2, nameIndex := 5, descriptorIndex := 6, attributes := #[] }, { accessFlags := 9, nameIndex := 45, descriptorIndex := 94, attributes := #[] }] 49 2 #[] #[])
  fields := #[]
  methods := #[k15m0, k15m1]
  instanceTypes := #[]
  staticTypes := #[]
  resolved := Array.replicate 184 none
  statics := none }

def pool16 : Array CpInfo := pool [(1, u "java/lang/Cloneable"), (0, .class_ 1), (0, u "java/lang/Object"), (0, .class_ 3)] 3

/-- java/lang/Cloneable -/
def k16 : Class := { plain "java/lang/Cloneable" (some 0) with
  accessFlags := 1537
  interfaces := #[]
  cf := some (fileOf pool16 2 #[] #[] 1537 4 #[] #[])
  fields := #[]
  methods := #[]
  instanceTypes := #[]
  staticTypes := #[]
  resolved := Array.replicate 8 none
  statics := none }

/-- the primitive byte -/
def k17 : Class := { plain "byte" none with kind := .primitive 'B', accessFlags := 0x411 }
/-- [B -/
def k18 : Class := { plain "[B" (some 0) with kind := .array 17 .byte, interfaces := #[16, 4], accessFlags := 1041 }

/-- the primitive int -/
def k19 : Class := { plain "int" none with kind := .primitive 'I', accessFlags := 0x411 }
/-- [I -/
def k20 : Class := { plain "[I" (some 0) with kind := .array 19 .int, interfaces := #[16, 4], accessFlags := 1041 }

/-- [Ljava/lang/Integer; -/
def k21 : Class := { plain "[Ljava/lang/Integer;" (some 0) with kind := .array 9 (.object "java/lang/Integer"), interfaces := #[16, 4], accessFlags := 1041 }

def heap : Heap := #[{ cls := 6, slots := #[.ref 259, .ref 260, .ref 261, .ref 262, .null], vm := .statics 6 },
  { cls := 10, slots := #[.int 0, .int 127, .ref 2, .null, .int 0], vm := .statics 10 },
  { cls := 21, slots := #[.ref 3, .ref 4, .ref 5, .ref 6, .ref 7, .ref 8, .ref 9, .ref 10, .ref 11, .ref 12, .ref 13, .ref 14, .ref 15, .ref 16, .ref 17, .ref 18, .ref 19, .ref 20, .ref 21, .ref 22, .ref 23, .ref 24, .ref 25, .ref 26, .ref 27, .ref 28, .ref 29, .ref 30, .ref 31, .ref 32, .ref 33, .ref 34, .ref 35, .ref 36, .ref 37, .ref 38, .ref 39, .ref 40, .ref 41, .ref 42, .ref 43, .ref 44, .ref 45, .ref 46, .ref 47, .ref 48, .ref 49, .ref 50, .ref 51, .ref 52, .ref 53, .ref 54, .ref 55, .ref 56, .ref 57, .ref 58, .ref 59, .ref 60, .ref 61, .ref 62, .ref 63, .ref 64, .ref 65, .ref 66, .ref 67, .ref 68, .ref 69, .ref 70, .ref 71, .ref 72, .ref 73, .ref 74, .ref 75, .ref 76, .ref 77, .ref 78, .ref 79, .ref 80, .ref 81, .ref 82, .ref 83, .ref 84, .ref 85, .ref 86, .ref 87, .ref 88, .ref 89, .ref 90, .ref 91, .ref 92, .ref 93, .ref 94, .ref 95, .ref 96, .ref 97, .ref 98, .ref 99, .ref 100, .ref 101, .ref 102, .ref 103, .ref 104, .ref 105, .ref 106, .ref 107, .ref 108, .ref 109, .ref 110, .ref 111, .ref 112, .ref 113, .ref 114, .ref 115, .ref 116, .ref 117, .ref 118, .ref 119, .ref 120, .ref 121, .ref 122, .ref 123, .ref 124, .ref 125, .ref 126, .ref 127, .ref 128, .ref 129, .ref 130, .ref 131, .ref 132, .ref 133, .ref 134, .ref 135, .ref 136, .ref 137, .ref 138, .ref 139, .ref 140, .ref 141, .ref 142, .ref 143, .ref 144, .ref 145, .ref 146, .ref 147, .ref 148, .ref 149, .ref 150, .ref 151, .ref 152, .ref 153, .ref 154, .ref 155, .ref 156, .ref 157, .ref 158, .ref 159, .ref 160, .ref 161, .ref 162, .ref 163, .ref 164, .ref 165, .ref 166, .ref 167, .ref 168, .ref 169, .ref 170, .ref 171, .ref 172, .ref 173, .ref 174, .ref 175, .ref 176, .ref 177, .ref 178, .ref 179, .ref 180, .ref 181, .ref 182, .ref 183, .ref 184, .ref 185, .ref 186, .ref 187, .ref 188, .ref 189, .ref 190, .ref 191, .ref 192, .ref 193, .ref 194, .ref 195, .ref 196, .ref 197, .ref 198, .ref 199, .ref 200, .ref 201, .ref 202, .ref 203, .ref 204, .ref 205, .ref 206, .ref 207, .ref 208, .ref 209, .ref 210, .ref 211, .ref 212, .ref 213, .ref 214, .ref 215, .ref 216, .ref 217, .ref 218, .ref 219, .ref 220, .ref 221, .ref 222, .ref 223, .ref 224, .ref 225, .ref 226, .ref 227, .ref 228, .ref 229, .ref 230, .ref 231, .ref 232, .ref 233, .ref 234, .ref 235, .ref 236, .ref 237, .ref 238, .ref 239, .ref 240, .ref 241, .ref 242, .ref 243, .ref 244, .ref 245, .ref 246, .ref 247, .ref 248, .ref 249, .ref 250, .ref 251, .ref 252, .ref 253, .ref 254, .ref 255, .ref 256, .ref 257, .ref 258], vm := .none },
  { cls := 9, slots := #[.int (-128)], vm := .none },
  { cls := 9, slots := #[.int (-127)], vm := .none },
  { cls := 9, slots := #[.int (-126)], vm := .none },
  { cls := 9, slots := #[.int (-125)], vm := .none },
  { cls := 9, slots := #[.int (-124)], vm := .none },
  { cls := 9, slots := #[.int (-123)], vm := .none },
  { cls := 9, slots := #[.int (-122)], vm := .none },
  { cls := 9, slots := #[.int (-121)], vm := .none },
  { cls := 9, slots := #[.int (-120)], vm := .none },
  { cls := 9, slots := #[.int (-119)], vm := .none },
  { cls := 9, slots := #[.int (-118)], vm := .none },
  { cls := 9, slots := #[.int (-117)], vm := .none },
  { cls := 9, slots := #[.int (-116)], vm := .none },
  { cls := 9, slots := #[.int (-115)], vm := .none },
  { cls := 9, slots := #[.int (-114)], vm := .none },
  { cls := 9, slots := #[.int (-113)], vm := .none },
  { cls := 9, slots := #[.int (-112)], vm := .none },
  { cls := 9, slots := #[.int (-111)], vm := .none },
  { cls := 9, slots := #[.int (-110)], vm := .none },
  { cls := 9, slots := #[.int (-109)], vm := .none },
  { cls := 9, slots := #[.int (-108)], vm := .none },
  { cls := 9, slots := #[.int (-107)], vm := .none },
  { cls := 9, slots := #[.int (-106)], vm := .none },
  { cls := 9, slots := #[.int (-105)], vm := .none },
  { cls := 9, slots := #[.int (-104)], vm := .none },
  { cls := 9, slots := #[.int (-103)], vm := .none },
  { cls := 9, slots := #[.int (-102)], vm := .none },
  { cls := 9, slots := #[.int (-101)], vm := .none },
  { cls := 9, slots := #[.int (-100)], vm := .none },
  { cls := 9, slots := #[.int (-99)], vm := .none },
  { cls := 9, slots := #[.int (-98)], vm := .none },
  { cls := 9, slots := #[.int (-97)], vm := .none },
  { cls := 9, slots := #[.int (-96)], vm := .none },
  { cls := 9, slots := #[.int (-95)], vm := .none },
  { cls := 9, slots := #[.int (-94)], vm := .none },
  { cls := 9, slots := #[.int (-93)], vm := .none },
  { cls := 9, slots := #[.int (-92)], vm := .none },
  { cls := 9, slots := #[.int (-91)], vm := .none },
  { cls := 9, slots := #[.int (-90)], vm := .none },
  { cls := 9, slots := #[.int (-89)], vm := .none },
  { cls := 9, slots := #[.int (-88)], vm := .none },
  { cls := 9, slots := #[.int (-87)], vm := .none },
  { cls := 9, slots := #[.int (-86)], vm := .none },
  { cls := 9, slots := #[.int (-85)], vm := .none },
  { cls := 9, slots := #[.int (-84)], vm := .none },
  { cls := 9, slots := #[.int (-83)], vm := .none },
  { cls := 9, slots := #[.int (-82)], vm := .none },
  { cls := 9, slots := #[.int (-81)], vm := .none },
  { cls := 9, slots := #[.int (-80)], vm := .none },
  { cls := 9, slots := #[.int (-79)], vm := .none },
  { cls := 9, slots := #[.int (-78)], vm := .none },
  { cls := 9, slots := #[.int (-77)], vm := .none },
  { cls := 9, slots := #[.int (-76)], vm := .none },
  { cls := 9, slots := #[.int (-75)], vm := .none },
  { cls := 9, slots := #[.int (-74)], vm := .none },
  { cls := 9, slots := #[.int (-73)], vm := .none },
  { cls := 9, slots := #[.int (-72)], vm := .none },
  { cls := 9, slots := #[.int (-71)], vm := .none },
  { cls := 9, slots := #[.int (-70)], vm := .none },
  { cls := 9, slots := #[.int (-69)], vm := .none },
  { cls := 9, slots := #[.int (-68)], vm := .none },
  { cls := 9, slots := #[.int (-67)], vm := .none },
  { cls := 9, slots := #[.int (-66)], vm := .none },
  { cls := 9, slots := #[.int (-65)], vm := .none },
  { cls := 9, slots := #[.int (-64)], vm := .none },
  { cls := 9, slots := #[.int (-63)], vm := .none },
  { cls := 9, slots := #[.int (-62)], vm := .none },
  { cls := 9, slots := #[.int (-61)], vm := .none },
  { cls := 9, slots := #[.int (-60)], vm := .none },
  { cls := 9, slots := #[.int (-59)], vm := .none },
  { cls := 9, slots := #[.int (-58)], vm := .none },
  { cls := 9, slots := #[.int (-57)], vm := .none },
  { cls := 9, slots := #[.int (-56)], vm := .none },
  { cls := 9, slots := #[.int (-55)], vm := .none },
  { cls := 9, slots := #[.int (-54)], vm := .none },
  { cls := 9, slots := #[.int (-53)], vm := .none },
  { cls := 9, slots := #[.int (-52)], vm := .none },
  { cls := 9, slots := #[.int (-51)], vm := .none },
  { cls := 9, slots := #[.int (-50)], vm := .none },
  { cls := 9, slots := #[.int (-49)], vm := .none },
  { cls := 9, slots := #[.int (-48)], vm := .none },
  { cls := 9, slots := #[.int (-47)], vm := .none },
  { cls := 9, slots := #[.int (-46)], vm := .none },
  { cls := 9, slots := #[.int (-45)], vm := .none },
  { cls := 9, slots := #[.int (-44)], vm := .none },
  { cls := 9, slots := #[.int (-43)], vm := .none },
  { cls := 9, slots := #[.int (-42)], vm := .none },
  { cls := 9, slots := #[.int (-41)], vm := .none },
  { cls := 9, slots := #[.int (-40)], vm := .none },
  { cls := 9, slots := #[.int (-39)], vm := .none },
  { cls := 9, slots := #[.int (-38)], vm := .none },
  { cls := 9, slots := #[.int (-37)], vm := .none },
  { cls := 9, slots := #[.int (-36)], vm := .none },
  { cls := 9, slots := #[.int (-35)], vm := .none },
  { cls := 9, slots := #[.int (-34)], vm := .none },
  { cls := 9, slots := #[.int (-33)], vm := .none },
  { cls := 9, slots := #[.int (-32)], vm := .none },
  { cls := 9, slots := #[.int (-31)], vm := .none },
  { cls := 9, slots := #[.int (-30)], vm := .none },
  { cls := 9, slots := #[.int (-29)], vm := .none },
  { cls := 9, slots := #[.int (-28)], vm := .none },
  { cls := 9, slots := #[.int (-27)], vm := .none },
  { cls := 9, slots := #[.int (-26)], vm := .none },
  { cls := 9, slots := #[.int (-25)], vm := .none },
  { cls := 9, slots := #[.int (-24)], vm := .none },
  { cls := 9, slots := #[.int (-23)], vm := .none },
  { cls := 9, slots := #[.int (-22)], vm := .none },
  { cls := 9, slots := #[.int (-21)], vm := .none },
  { cls := 9, slots := #[.int (-20)], vm := .none },
  { cls := 9, slots := #[.int (-19)], vm := .none },
  { cls := 9, slots := #[.int (-18)], vm := .none },
  { cls := 9, slots := #[.int (-17)], vm := .none },
  { cls := 9, slots := #[.int (-16)], vm := .none },
  { cls := 9, slots := #[.int (-15)], vm := .none },
  { cls := 9, slots := #[.int (-14)], vm := .none },
  { cls := 9, slots := #[.int (-13)], vm := .none },
  { cls := 9, slots := #[.int (-12)], vm := .none },
  { cls := 9, slots := #[.int (-11)], vm := .none },
  { cls := 9, slots := #[.int (-10)], vm := .none },
  { cls := 9, slots := #[.int (-9)], vm := .none },
  { cls := 9, slots := #[.int (-8)], vm := .none },
  { cls := 9, slots := #[.int (-7)], vm := .none },
  { cls := 9, slots := #[.int (-6)], vm := .none },
  { cls := 9, slots := #[.int (-5)], vm := .none },
  { cls := 9, slots := #[.int (-4)], vm := .none },
  { cls := 9, slots := #[.int (-3)], vm := .none },
  { cls := 9, slots := #[.int (-2)], vm := .none },
  { cls := 9, slots := #[.int (-1)], vm := .none },
  { cls := 9, slots := #[.int (0)], vm := .none },
  { cls := 9, slots := #[.int (1)], vm := .none },
  { cls := 9, slots := #[.int (2)], vm := .none },
  { cls := 9, slots := #[.int (3)], vm := .none },
  { cls := 9, slots := #[.int (4)], vm := .none },
  { cls := 9, slots := #[.int (5)], vm := .none },
  { cls := 9, slots := #[.int (6)], vm := .none },
  { cls := 9, slots := #[.int (7)], vm := .none },
  { cls := 9, slots := #[.int (8)], vm := .none },
  { cls := 9, slots := #[.int (9)], vm := .none },
  { cls := 9, slots := #[.int (10)], vm := .none },
  { cls := 9, slots := #[.int (11)], vm := .none },
  { cls := 9, slots := #[.int (12)], vm := .none },
  { cls := 9, slots := #[.int (13)], vm := .none },
  { cls := 9, slots := #[.int (14)], vm := .none },
  { cls := 9, slots := #[.int (15)], vm := .none },
  { cls := 9, slots := #[.int (16)], vm := .none },
  { cls := 9, slots := #[.int (17)], vm := .none },
  { cls := 9, slots := #[.int (18)], vm := .none },
  { cls := 9, slots := #[.int (19)], vm := .none },
  { cls := 9, slots := #[.int (20)], vm := .none },
  { cls := 9, slots := #[.int (21)], vm := .none },
  { cls := 9, slots := #[.int (22)], vm := .none },
  { cls := 9, slots := #[.int (23)], vm := .none },
  { cls := 9, slots := #[.int (24)], vm := .none },
  { cls := 9, slots := #[.int (25)], vm := .none },
  { cls := 9, slots := #[.int (26)], vm := .none },
  { cls := 9, slots := #[.int (27)], vm := .none },
  { cls := 9, slots := #[.int (28)], vm := .none },
  { cls := 9, slots := #[.int (29)], vm := .none },
  { cls := 9, slots := #[.int (30)], vm := .none },
  { cls := 9, slots := #[.int (31)], vm := .none },
  { cls := 9, slots := #[.int (32)], vm := .none },
  { cls := 9, slots := #[.int (33)], vm := .none },
  { cls := 9, slots := #[.int (34)], vm := .none },
  { cls := 9, slots := #[.int (35)], vm := .none },
  { cls := 9, slots := #[.int (36)], vm := .none },
  { cls := 9, slots := #[.int (37)], vm := .none },
  { cls := 9, slots := #[.int (38)], vm := .none },
  { cls := 9, slots := #[.int (39)], vm := .none },
  { cls := 9, slots := #[.int (40)], vm := .none },
  { cls := 9, slots := #[.int (41)], vm := .none },
  { cls := 9, slots := #[.int (42)], vm := .none },
  { cls := 9, slots := #[.int (43)], vm := .none },
  { cls := 9, slots := #[.int (44)], vm := .none },
  { cls := 9, slots := #[.int (45)], vm := .none },
  { cls := 9, slots := #[.int (46)], vm := .none },
  { cls := 9, slots := #[.int (47)], vm := .none },
  { cls := 9, slots := #[.int (48)], vm := .none },
  { cls := 9, slots := #[.int (49)], vm := .none },
  { cls := 9, slots := #[.int (50)], vm := .none },
  { cls := 9, slots := #[.int (51)], vm := .none },
  { cls := 9, slots := #[.int (52)], vm := .none },
  { cls := 9, slots := #[.int (53)], vm := .none },
  { cls := 9, slots := #[.int (54)], vm := .none },
  { cls := 9, slots := #[.int (55)], vm := .none },
  { cls := 9, slots := #[.int (56)], vm := .none },
  { cls := 9, slots := #[.int (57)], vm := .none },
  { cls := 9, slots := #[.int (58)], vm := .none },
  { cls := 9, slots := #[.int (59)], vm := .none },
  { cls := 9, slots := #[.int (60)], vm := .none },
  { cls := 9, slots := #[.int (61)], vm := .none },
  { cls := 9, slots := #[.int (62)], vm := .none },
  { cls := 9, slots := #[.int (63)], vm := .none },
  { cls := 9, slots := #[.int (64)], vm := .none },
  { cls := 9, slots := #[.int (65)], vm := .none },
  { cls := 9, slots := #[.int (66)], vm := .none },
  { cls := 9, slots := #[.int (67)], vm := .none },
  { cls := 9, slots := #[.int (68)], vm := .none },
  { cls := 9, slots := #[.int (69)], vm := .none },
  { cls := 9, slots := #[.int (70)], vm := .none },
  { cls := 9, slots := #[.int (71)], vm := .none },
  { cls := 9, slots := #[.int (72)], vm := .none },
  { cls := 9, slots := #[.int (73)], vm := .none },
  { cls := 9, slots := #[.int (74)], vm := .none },
  { cls := 9, slots := #[.int (75)], vm := .none },
  { cls := 9, slots := #[.int (76)], vm := .none },
  { cls := 9, slots := #[.int (77)], vm := .none },
  { cls := 9, slots := #[.int (78)], vm := .none },
  { cls := 9, slots := #[.int (79)], vm := .none },
  { cls := 9, slots := #[.int (80)], vm := .none },
  { cls := 9, slots := #[.int (81)], vm := .none },
  { cls := 9, slots := #[.int (82)], vm := .none },
  { cls := 9, slots := #[.int (83)], vm := .none },
  { cls := 9, slots := #[.int (84)], vm := .none },
  { cls := 9, slots := #[.int (85)], vm := .none },
  { cls := 9, slots := #[.int (86)], vm := .none },
  { cls := 9, slots := #[.int (87)], vm := .none },
  { cls := 9, slots := #[.int (88)], vm := .none },
  { cls := 9, slots := #[.int (89)], vm := .none },
  { cls := 9, slots := #[.int (90)], vm := .none },
  { cls := 9, slots := #[.int (91)], vm := .none },
  { cls := 9, slots := #[.int (92)], vm := .none },
  { cls := 9, slots := #[.int (93)], vm := .none },
  { cls := 9, slots := #[.int (94)], vm := .none },
  { cls := 9, slots := #[.int (95)], vm := .none },
  { cls := 9, slots := #[.int (96)], vm := .none },
  { cls := 9, slots := #[.int (97)], vm := .none },
  { cls := 9, slots := #[.int (98)], vm := .none },
  { cls := 9, slots := #[.int (99)], vm := .none },
  { cls := 9, slots := #[.int (100)], vm := .none },
  { cls := 9, slots := #[.int (101)], vm := .none },
  { cls := 9, slots := #[.int (102)], vm := .none },
  { cls := 9, slots := #[.int (103)], vm := .none },
  { cls := 9, slots := #[.int (104)], vm := .none },
  { cls := 9, slots := #[.int (105)], vm := .none },
  { cls := 9, slots := #[.int (106)], vm := .none },
  { cls := 9, slots := #[.int (107)], vm := .none },
  { cls := 9, slots := #[.int (108)], vm := .none },
  { cls := 9, slots := #[.int (109)], vm := .none },
  { cls := 9, slots := #[.int (110)], vm := .none },
  { cls := 9, slots := #[.int (111)], vm := .none },
  { cls := 9, slots := #[.int (112)], vm := .none },
  { cls := 9, slots := #[.int (113)], vm := .none },
  { cls := 9, slots := #[.int (114)], vm := .none },
  { cls := 9, slots := #[.int (115)], vm := .none },
  { cls := 9, slots := #[.int (116)], vm := .none },
  { cls := 9, slots := #[.int (117)], vm := .none },
  { cls := 9, slots := #[.int (118)], vm := .none },
  { cls := 9, slots := #[.int (119)], vm := .none },
  { cls := 9, slots := #[.int (120)], vm := .none },
  { cls := 9, slots := #[.int (121)], vm := .none },
  { cls := 9, slots := #[.int (122)], vm := .none },
  { cls := 9, slots := #[.int (123)], vm := .none },
  { cls := 9, slots := #[.int (124)], vm := .none },
  { cls := 9, slots := #[.int (125)], vm := .none },
  { cls := 9, slots := #[.int (126)], vm := .none },
  { cls := 9, slots := #[.int (127)], vm := .none },
  { cls := 6, slots := #[.null, .int 0, .int 0], vm := .none },
  { cls := 6, slots := #[.null, .int 1, .int 0], vm := .none },
  { cls := 6, slots := #[.null, .int 2, .int 0], vm := .none },
  { cls := 6, slots := #[.null, .int 3, .int 0], vm := .none }]
def classes : Array Class := #[k0, k1, k2, k3, k4, k5, k6, k7, k8, k9, k10, k11, k12, k13, k14, k15, k16, k17, k18, k19, k20, k21]
def interned : List (Array UInt16 × Addr) := []
def slotsUsed : Nat := 534
def theMethod : MethodId := ⟨1, 1⟩
def args0 : Array Value := #[.int 0, .int 5, .int 0]
def aboutOver (below : List Frame) : State where
  vm := { classes := classes, interned := interned.toArray }
  heap := heap
  slotsUsed := slotsUsed
  threads := #[{ frames := .invoking theMethod args0 :: below }]
def below0 : List Frame := [.native { method := ⟨0, 0⟩, args := #[] }]
def about1 : State := aboutOver below0
def p0 : Program := .bare "" "" ""
def e0 : Env := launch0.env 0 0 0
theorem w_frames : about1.frames = Frame.invoking theMethod args0 :: below0 := rfl
set_option maxRecDepth 65536 in
theorem w_args : argsFit about1.vm theMethod args0 = true := by decide +kernel
set_option maxRecDepth 65536 in
theorem w_heap : heapFits about1 = true := by decide +kernel
set_option maxRecDepth 65536 in
theorem w_runnable : about1.curStatus? = some .runnable := by decide +kernel
set_option maxRecDepth 65536 in
theorem w_alone : about1.alone = true := by decide +kernel
set_option maxRecDepth 65536 in
theorem w_named : about1.methodNamed? x = some theMethod := by decide +kernel
set_option maxRecDepth 65536 in
theorem w_hears : about1.hears theMethod below0 = true := by decide +kernel
set_option maxRecDepth 65536 in
theorem w_ripe : about1.ripe theMethod args0 below0 = true := by decide +kernel
theorem w_running : about1.status = .running := rfl
set_option maxRecDepth 65536 in
theorem w_room : about1.hasRoom e0.platform room_1 = true :=
  launch0.hasRoom_least _ room_1 (by decide +kernel) (by decide +kernel) (by decide +kernel) (by decide +kernel) (by decide +kernel) (by decide +kernel)
theorem allAtoms_all (ts : List Jvm.Cond) (a : Array Jvm.Value) (st : Jvm.State) : (allAtoms ts).before a st = ts.all (fun c => c.before a st) := by
  induction ts with
  | nil => rfl
  | cons c t ih =>
    show (Jvm.Cond.and c (allAtoms t)).before a st = _
    rw [Jvm.Cond.before_and, ih, List.all_cons]
def words1 : List Jvm.Cond := Jvm.Cond.code x code maxLocals ret :: tables_1
/-- a 'code' word, met by the world's own term for the bytes: nothing is compared byte by byte -/
theorem code_word {y : MethodName} {bytes : ByteArray} {mx : Nat} {rt : Option FieldType} {a : Array Value} {s : State} {m : MethodId} {meth : Method} {c : Code} (h1 : s.methodNamed? y = some m) (h2 : s.vm.method? m = some meth) (h3 : meth.code = some c) (h4 : c.code = bytes)
    (h5 : (c.maxLocals == mx && c.exceptionTable.isEmpty && decide (c.maxStack ≤ mostOperands) && decide (meth.sig.returnType = rt) && !meth.locks && decide (parseMethodDescriptor y.desc = some meth.sig)) = true) : (Jvm.Cond.code y bytes mx rt).before a s = true := by
  simp only [Bool.and_eq_true, beq_iff_eq, Bool.not_eq_true', decide_eq_true_eq] at h5
  obtain ⟨⟨⟨⟨⟨g1, g2⟩, g3⟩, g4⟩, g5⟩, g6⟩ := h5
  simp [Cond.before, Cond.holds, Cond.value, h1, h2, h3, h4, g1, g2, g3, g4, g5, g6]
def isCode : Jvm.Cond → Bool
  | .code _ _ _ _ => true
  | _ => false
theorem all_split {L : List Jvm.Cond} {P : Jvm.Cond → Bool} (h1 : L.all (fun c => isCode c || P c) = true) (h2 : ∀ c ∈ L.filter isCode, P c = true) : L.all P = true := by
  refine List.all_eq_true.mpr fun c hc => ?_
  have h := List.all_eq_true.mp h1 c hc
  rcases Bool.eq_false_or_eq_true (isCode c) with hi | hi
  · exact h2 c (List.mem_filter.mpr ⟨hc, hi⟩)
  · simpa [hi] using h
set_option maxRecDepth 65536 in
theorem w_c0 : (Jvm.Cond.code x code maxLocals ret).before args0 about1 = true := code_word (m := ⟨1, 1⟩) (meth := k1m1) (c := k1c1) (by decide +kernel) rfl rfl rfl (by decide +kernel)
set_option maxRecDepth 65536 in
theorem w_c1 : (Jvm.Cond.code ({ cls := "java/lang/Integer", name := "valueOf", desc := "(I)Ljava/lang/Integer;" } : Jvm.MethodName) jdk_33_method_22_code (1 : Nat) (Option.some (Jvm.ClassFile.FieldType.object "java/lang/Integer"))).before args0 about1 = true := code_word (m := ⟨9, 0⟩) (meth := k9m0) (c := k9c0) (by decide +kernel) rfl rfl rfl (by decide +kernel)
set_option maxRecDepth 65536 in
theorem w_c2 : (Jvm.Cond.code ({ cls := "com/example/kittiwake/kittiwake/core/signing/SignatureCheck", name := "withDefaults", desc := "(Lcom/example/kittiwake/kittiwake/core/signing/SignatureScheme;Ljava/lang/Integer;)Lcom/example/kittiwake/kittiwake/core/signing/SignatureCheck;" } : Jvm.MethodName) prog_15_method_2_code (2 : Nat) (Option.some (Jvm.ClassFile.FieldType.object "com/example/kittiwake/kittiwake/core/signing/SignatureCheck"))).before args0 about1 = true := code_word (m := ⟨12, 1⟩) (meth := k12m1) (c := k12c1) (by decide +kernel) rfl rfl rfl (by decide +kernel)
set_option maxRecDepth 65536 in
theorem w_c3 : (Jvm.Cond.code ({ cls := "java/lang/Integer", name := "intValue", desc := "()I" } : Jvm.MethodName) jdk_33_method_27_code (1 : Nat) (Option.some Jvm.ClassFile.FieldType.int)).before args0 about1 = true := code_word (m := ⟨9, 2⟩) (meth := k9m2) (c := k9c2) (by decide +kernel) rfl rfl rfl (by decide +kernel)
set_option maxRecDepth 65536 in
theorem w_c4 : (Jvm.Cond.code ({ cls := "com/example/kittiwake/kittiwake/core/signing/SignatureCheck", name := "<init>", desc := "(Lcom/example/kittiwake/kittiwake/core/signing/SignatureScheme;I)V" } : Jvm.MethodName) prog_15_method_1_code (3 : Nat) (Option.none : Option Jvm.ClassFile.FieldType)).before args0 about1 = true := code_word (m := ⟨12, 0⟩) (meth := k12m0) (c := k12c0) (by decide +kernel) rfl rfl rfl (by decide +kernel)
set_option maxRecDepth 65536 in
theorem w_c5 : (Jvm.Cond.code ({ cls := "java/lang/Record", name := "<init>", desc := "()V" } : Jvm.MethodName) jdk_30_method_1_code (1 : Nat) (Option.none : Option Jvm.ClassFile.FieldType)).before args0 about1 = true := code_word (m := ⟨11, 0⟩) (meth := k11m0) (c := k11c0) (by decide +kernel) rfl rfl rfl (by decide +kernel)
set_option maxRecDepth 65536 in
theorem w_c6 : (Jvm.Cond.code ({ cls := "java/lang/Object", name := "<init>", desc := "()V" } : Jvm.MethodName) object_method_1_code (1 : Nat) (Option.none : Option Jvm.ClassFile.FieldType)).before args0 about1 = true := code_word (m := ⟨0, 0⟩) (meth := k0m0) (c := k0c0) (by decide +kernel) rfl rfl rfl (by decide +kernel)
set_option maxRecDepth 65536 in
theorem w_c7 : (Jvm.Cond.code ({ cls := "java/util/Objects", name := "requireNonNull", desc := "(Ljava/lang/Object;Ljava/lang/String;)Ljava/lang/Object;" } : Jvm.MethodName) jdk_31_method_11_code (2 : Nat) (Option.some (Jvm.ClassFile.FieldType.object "java/lang/Object"))).before args0 about1 = true := code_word (m := ⟨15, 1⟩) (meth := k15m1) (c := k15c1) (by decide +kernel) rfl rfl rfl (by decide +kernel)
set_option maxRecDepth 65536 in
theorem w_c8 : (Jvm.Cond.code ({ cls := "com/example/kittiwake/kittiwake/core/signing/SignatureCheck", name := "scheme", desc := "()Lcom/example/kittiwake/kittiwake/core/signing/SignatureScheme;" } : Jvm.MethodName) prog_15_method_6_code (1 : Nat) (Option.some (Jvm.ClassFile.FieldType.object "com/example/kittiwake/kittiwake/core/signing/SignatureScheme"))).before args0 about1 = true := code_word (m := ⟨12, 2⟩) (meth := k12m2) (c := k12c2) (by decide +kernel) rfl rfl rfl (by decide +kernel)
set_option maxRecDepth 65536 in
theorem w_c9 : (Jvm.Cond.code ({ cls := "com/example/kittiwake/kittiwake/core/signing/SignatureCheck", name := "toleranceSeconds", desc := "()I" } : Jvm.MethodName) prog_15_method_7_code (1 : Nat) (Option.some Jvm.ClassFile.FieldType.int)).before args0 about1 = true := code_word (m := ⟨12, 3⟩) (meth := k12m3) (c := k12c3) (by decide +kernel) rfl rfl rfl (by decide +kernel)
set_option maxRecDepth 65536 in
theorem w_c10 : (Jvm.Cond.code ({ cls := "java/lang/Integer", name := "<init>", desc := "(I)V" } : Jvm.MethodName) jdk_33_method_23_code (2 : Nat) (Option.none : Option Jvm.ClassFile.FieldType)).before args0 about1 = true := code_word (m := ⟨9, 1⟩) (meth := k9m1) (c := k9c1) (by decide +kernel) rfl rfl rfl (by decide +kernel)
set_option maxRecDepth 65536 in
theorem w_c11 : (Jvm.Cond.code ({ cls := "java/lang/Number", name := "<init>", desc := "()V" } : Jvm.MethodName) jdk_18_method_1_code (1 : Nat) (Option.none : Option Jvm.ClassFile.FieldType)).before args0 about1 = true := code_word (m := ⟨7, 0⟩) (meth := k7m0) (c := k7c0) (by decide +kernel) rfl rfl rfl (by decide +kernel)
def codes1 : List Jvm.Cond := [Jvm.Cond.code x code maxLocals ret, Jvm.Cond.code ({ cls := "java/lang/Integer", name := "valueOf", desc := "(I)Ljava/lang/Integer;" } : Jvm.MethodName) jdk_33_method_22_code (1 : Nat) (Option.some (Jvm.ClassFile.FieldType.object "java/lang/Integer")), Jvm.Cond.code ({ cls := "com/example/kittiwake/kittiwake/core/signing/SignatureCheck", name := "withDefaults", desc := "(Lcom/example/kittiwake/kittiwake/core/signing/SignatureScheme;Ljava/lang/Integer;)Lcom/example/kittiwake/kittiwake/core/signing/SignatureCheck;" } : Jvm.MethodName) prog_15_method_2_code (2 : Nat) (Option.some (Jvm.ClassFile.FieldType.object "com/example/kittiwake/kittiwake/core/signing/SignatureCheck")), Jvm.Cond.code ({ cls := "java/lang/Integer", name := "intValue", desc := "()I" } : Jvm.MethodName) jdk_33_method_27_code (1 : Nat) (Option.some Jvm.ClassFile.FieldType.int), Jvm.Cond.code ({ cls := "com/example/kittiwake/kittiwake/core/signing/SignatureCheck", name := "<init>", desc := "(Lcom/example/kittiwake/kittiwake/core/signing/SignatureScheme;I)V" } : Jvm.MethodName) prog_15_method_1_code (3 : Nat) (Option.none : Option Jvm.ClassFile.FieldType), Jvm.Cond.code ({ cls := "java/lang/Record", name := "<init>", desc := "()V" } : Jvm.MethodName) jdk_30_method_1_code (1 : Nat) (Option.none : Option Jvm.ClassFile.FieldType), Jvm.Cond.code ({ cls := "java/lang/Object", name := "<init>", desc := "()V" } : Jvm.MethodName) object_method_1_code (1 : Nat) (Option.none : Option Jvm.ClassFile.FieldType), Jvm.Cond.code ({ cls := "java/util/Objects", name := "requireNonNull", desc := "(Ljava/lang/Object;Ljava/lang/String;)Ljava/lang/Object;" } : Jvm.MethodName) jdk_31_method_11_code (2 : Nat) (Option.some (Jvm.ClassFile.FieldType.object "java/lang/Object")), Jvm.Cond.code ({ cls := "com/example/kittiwake/kittiwake/core/signing/SignatureCheck", name := "scheme", desc := "()Lcom/example/kittiwake/kittiwake/core/signing/SignatureScheme;" } : Jvm.MethodName) prog_15_method_6_code (1 : Nat) (Option.some (Jvm.ClassFile.FieldType.object "com/example/kittiwake/kittiwake/core/signing/SignatureScheme")), Jvm.Cond.code ({ cls := "com/example/kittiwake/kittiwake/core/signing/SignatureCheck", name := "toleranceSeconds", desc := "()I" } : Jvm.MethodName) prog_15_method_7_code (1 : Nat) (Option.some Jvm.ClassFile.FieldType.int), Jvm.Cond.code ({ cls := "java/lang/Integer", name := "<init>", desc := "(I)V" } : Jvm.MethodName) jdk_33_method_23_code (2 : Nat) (Option.none : Option Jvm.ClassFile.FieldType), Jvm.Cond.code ({ cls := "java/lang/Number", name := "<init>", desc := "()V" } : Jvm.MethodName) jdk_18_method_1_code (1 : Nat) (Option.none : Option Jvm.ClassFile.FieldType)]
set_option maxRecDepth 65536 in
theorem codes_eq : words1.filter isCode = codes1 := rfl
theorem w_codes : ∀ c ∈ words1.filter isCode, c.before args0 about1 = true := by
  rw [codes_eq]
  intro c hc
  simp only [codes1, List.mem_cons, List.not_mem_nil, or_false] at hc
  rcases hc with rfl | rfl | rfl | rfl | rfl | rfl | rfl | rfl | rfl | rfl | rfl | rfl
  · exact w_c0
  · exact w_c1
  · exact w_c2
  · exact w_c3
  · exact w_c4
  · exact w_c5
  · exact w_c6
  · exact w_c7
  · exact w_c8
  · exact w_c9
  · exact w_c10
  · exact w_c11
set_option maxRecDepth 65536 in
theorem w_t1 : (words1.take 24).all (fun c => isCode c || c.before args0 about1) = true := by decide +kernel
set_option maxRecDepth 65536 in
theorem w_t2 : ((words1.drop 24).take 24).all (fun c => isCode c || c.before args0 about1) = true := by decide +kernel
set_option maxRecDepth 65536 in
theorem w_t3 : (((words1.drop 24).drop 24).take 24).all (fun c => isCode c || c.before args0 about1) = true := by decide +kernel
set_option maxRecDepth 65536 in
theorem w_t4 : (((words1.drop 24).drop 24).drop 24).all (fun c => isCode c || c.before args0 about1) = true := by decide +kernel
theorem w_tables : (allAtoms (Jvm.Cond.code x code maxLocals ret :: tables_1)).before args0 about1 = true := by
  rw [allAtoms_all]
  show words1.all (fun c => c.before args0 about1) = true
  refine all_split ?_ w_codes
  rw [← List.take_append_drop 24 words1, List.all_append, w_t1, ← List.take_append_drop 24 (words1.drop 24), List.all_append, w_t2, ← List.take_append_drop 24 ((words1.drop 24).drop 24), List.all_append, w_t3, w_t4]
  rfl
set_option maxRecDepth 65536 in
theorem w_rest : rest_1_c.before args0 about1 = true := by decide +kernel
set_option maxRecDepth 65536 in
theorem w_case : (Jvm.Cond.and given_1 narrow_1).before args0 about1 = true := by decide +kernel
theorem w_applies : (headSpec (Jvm.Cond.code x code maxLocals ret :: tables_1) room_1).applies x e0.platform about1 = true :=
  (Spec.applies_iff w_frames).mpr ⟨w_running, w_runnable, w_alone, w_named, w_hears, w_ripe, w_room, w_tables⟩
theorem atStart : AtStart classFile x code maxLocals ret World_1 tables_1 room_1 Calls_1 rest_1 Pre_1 launch0 p0 e0 about1 theMethod args0 below0 :=
  ⟨lists_1, trivial, launch0.admits_env _ _ _, launch0.least_env, fairChoices_fair.cas, fairChoices_fair.clock, w_frames, w_args, w_heap, w_applies, trivial, w_rest, w_case⟩
end start1
theorem witness_1 : WitnessClaimed_1 := ⟨start1.p0, start1.e0, start1.about1, start1.theMethod, start1.args0, start1.below0, start1.atStart⟩
end Jvm.Pilot.@@N@@
