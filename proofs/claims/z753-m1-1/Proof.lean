import JvmDerived
import JvmDerived.Pilot.@@N@@Statement
import JvmDerived.Pilot.@@N@@Code
set_option linter.unusedVariables false
set_option linter.unusedSimpArgs false
namespace Jvm.RoadKit
open Sem ClassFile Op Lib Jvm.Stand Jvm.Free Jvm.LawKit
section New
variable {p : Program} {l : Launch} {e : Env} {R : Room} {s : State} {m : MethodId} {args : Array Value} {below : List Frame} {meth : Method} {c : Code} {T : State} {locs : List Loc} {cells slots : Nat}
theorem retI (X : Stand p l e R s m args below meth c T locs cells slots) (hx : p.tables.exec = Jvm.exec) {pc : Nat} {Ls : Array Slot} {z : Int32} {rest : List Value} (hret : meth.sig.returnType = some .int) (hd : decode c.code pc = .ok (.ireturn, 1)) {fs : List Frame}
    (hl : ∀ (f : JFrame) (acts : List Action), f.method = m → f.locked = none → f.entered = [] → (doReturn e (T.setTop f) acts (some (.int z))).1 = T.setFrames fs) : Steps p.tables e below (T.setTop (mkF m pc Ls (.int z :: rest))) (T.setFrames fs) :=
  retOut X hx hret rfl (Or.inl ⟨rfl, Or.inl rfl, z, rfl⟩) hd hl
end New
end Jvm.RoadKit
namespace Jvm.Pilot.@@N@@
open Jvm Jvm.ClassFile Sem Op Lib Jvm.Free Jvm.Stand Jvm.LawKit Jvm.RoadKit Bundle Jvm.Pilot.@@N@@.Jvm.D
section OwnKit
variable {p : Program} {l : Launch} {e : Env} {R : Room} {s s' : State} {m : MethodId} {args : Array Value} {below : List Frame} {meth : Method} {c : Code} {T T' : State} {locs : List Loc} {cells slots : Nat} {g g' : JFrame} {Z : State} {a0 : Array Value} {h : Heap} {Q : Option Value → Heap → List Loc → Prop} {k n : Nat} {E : State → Outcome → State → List Loc → Nat → Nat → Prop}
/-- the run goes on from here to its end, and the end is as Q and the frame E say -/
def Fin (E : State → Outcome → State → List Loc → Nat → Nat → Prop) (p : Program) (e : Env) (below : List Frame) (s : State) (Q : Option Value → Heap → List Loc → Prop) (k n : Nat) (T : State) (g : JFrame) : Prop :=
  ∃ (s₂ : State) (o : Outcome), Steps p.tables e below (T.setTop g) s₂ ∧ s₂.status = .running ∧ Ended s₂ below o ∧ ∃ v L, o = .returned v ∧ Q v s₂.heap L ∧ E s o s₂ L k n
theorem Fin.go (st : ∀ t, Steps p.tables e below (T'.setTop g') t → Steps p.tables e below (T.setTop g) t) (w : Fin E p e below s Q k n T' g') : Fin E p e below s Q k n T g := by
  obtain ⟨s₂, o, h1, r⟩ := w
  exact ⟨s₂, o, st _ h1, r⟩
theorem Fin.came (st : Steps p.tables e below (T.setTop g) (T'.setTop g')) (w : Fin E p e below s Q k n T' g') : Fin E p e below s Q k n T g := by
  obtain ⟨s₂, o, h1, r⟩ := w
  exact ⟨s₂, o, st.trans h1, r⟩
theorem Fin.leaveN (X : Stand p l e R s m args below meth c T locs cells slots) (eT : T.heap = h) (hlk : meth.locks = false) {v : Option Value} (hv : meth.sig.returnType = none → v = none) (hk : cells ≤ k) (hn : slots ≤ n) (hq : Q v h locs)
    (st : ∀ fs, (∀ (f : JFrame) (acts : List Action), f.method = m → f.locked = none → f.entered = [] → (doReturn e (T.setTop f) acts v).1 = T.setFrames fs) → Steps p.tables e below (T.setTop g) (T.setFrames fs)) : Fin FrameEnd p e below s Q k n T g := by
  subst eT
  obtain ⟨fs, hr, hrun, hended, hW, hsame⟩ := X.leave hv hlk
  exact ⟨_, _, st fs hr, hrun, hended, v, locs, rfl, hq, ⟨v, rfl⟩, hW, hsame.mono hk hn⟩
/-- a body's contract: called with these arguments at this heap, it comes back as Q says -/
abbrev ConW (E : State → Outcome → State → List Loc → Nat → Nat → Prop) (l : Launch) (Z : State) (ws : List Jvm.Cond) (y : MethodName) (bytes : ByteArray) (maxL : Nat) (ret : Option FieldType) (rm : Room) (as' : Array Value) (h : Heap) (Q : Option Value → Heap → List Loc → Prop) : Prop :=
  MetFree l y (head1 (Jvm.Cond.code y bytes maxL ret :: ws) rm) (fun a U => a = as' ∧ Z.Warmed39 U.vm ∧ U.heap = h) (fun _ _ _ _ _ => True) (fun _ U o U' => ∃ v L, o = .returned v ∧ Q v U'.heap L ∧ E U o U' L rm.cells rm.slots)
abbrev Con (E : State → Outcome → State → List Loc → Nat → Nat → Prop) (l : Launch) (Z : State) (y : MethodName) (bytes : ByteArray) (maxL : Nat) (ret : Option FieldType) (rm : Room) (as' : Array Value) (h : Heap) (Q : Option Value → Heap → List Loc → Prop) : Prop := ConW E l Z [] y bytes maxL ret rm as' h Q
theorem conOf {ws : List Jvm.Cond} {y : MethodName} {bytes : ByteArray} {maxL : Nat} {ret : Option FieldType} {rm : Room} {as' : Array Value} (hpn : plainFor y = true)
    (body : ∀ (p : Program) (e : Env) (s : State) (m : MethodId) (below : List Frame) (meth : Method) (c : Code) (s₁ : State), Stand p l e rm s m as' below meth c s₁ [] 0 0 → p.tables.exec = Jvm.exec → c.code = bytes → c.maxLocals = maxL → s.vm.findClass y.cls = some m.cls → meth.name = y.name →
      meth.sig.returnType = ret → meth.locks = false → Z.Warmed39 s.vm → s₁.heap = h → Fin E p e below s Q rm.cells rm.slots s₁ (entryFrame m as' maxL)) : ConW E l Z ws y bytes maxL ret rm as' h Q := by
  refine MetFree.of_bodySF hpn hisR ?_
  intro p e s m args below meth c s₁ Bd hml hP hK
  obtain ⟨rfl, hZ, hh⟩ := hP
  exact body p e s m below meth c s₁ (Stand.of_body Bd) Bd.exec Bd.bytes hml (findClass_of_methodNamed Bd.named) (name_of_methodNamed Bd.named Bd.method).1 Bd.returns (BodyLoose.notSynchronized Bd) hZ (by rw [← hh, Bd.state]; rfl)
/-- nothing moved; r is returned -/
abbrev Pure (h0 : Heap) (r : Option Value) : Option Value → Heap → List Loc → Prop := fun v h L => v = r ∧ h = h0 ∧ L = []
theorem nar_refv {v : Value} {t : FieldType} (h : v.isRef = true) (ht : t.isReference = true) : narrow t v = v := by
  rcases ref_cases h with rfl | ⟨a, rfl⟩ <;> cases t <;> first | rfl | (simp [FieldType.isReference] at ht)
theorem fits_refv {v : Value} {t : FieldType} (h : v.isRef = true) (ht : t.isReference = true) : fits t v = true := by
  rcases ref_cases h with rfl | ⟨a, rfl⟩ <;> cases t <;> first | rfl | (simp [FieldType.isReference] at ht)
theorem nar_b8 (x : Int32) : nar .byte ((Int32.toInt8 x).toInt32) = (Int32.toInt8 x).toInt32 := by simp [nar]
theorem nar_c16 (x : Int32) : nar .char ((Int32.toUInt32 x).toUInt16.toUInt32.toInt32) = (Int32.toUInt32 x).toUInt16.toUInt32.toInt32 := by simp only [nar, UInt32.toUInt32_toInt32, UInt16.toUInt16_toUInt32]
section Calls
variable {own : String} {index : Nat} {y z : MethodName} {bytes : ByteArray} {maxL : Nat} {ret : Option FieldType} {rm : Room} {W : Nat} {Qc : Option Value → Heap → List Loc → Prop} {argsL rest : List Value}
theorem callSt (X : Stand p l e R s m args below meth c T locs cells slots) (hx : p.tables.exec = Jvm.exec) (hZ : Z.Warmed39 s.vm) (hown : s.vm.findClass own = some m.cls)
    (w1 : (Jvm.Cond.methodLink own index y).before a0 Z = true) (w2 : (Jvm.Cond.static y).before a0 Z = true) (w3 : (Jvm.Cond.initialized y.cls).before a0 Z = true) (w4 : (Jvm.Cond.code y bytes maxL ret).before a0 Z = true) (hy : y.cls ≠ "java/lang/invoke/MethodHandle" ∧ y.cls ≠ "java/lang/invoke/VarHandle")
    (hC : Con FrameEnd l Z y bytes maxL ret rm argsL.toArray h Qc) (eT : T.heap = h) (hf : rm.frames + 1 ≤ R.frames) (hl : W + (maxL + 11) + rm.locals ≤ R.locals) (hc : cells + rm.cells ≤ R.cells) (hs : slots + rm.slots ≤ R.slots)
    (hg : g.method = m) (hsize : g.locals.size = c.maxLocals) (hlen : ∀ sig, parseMethodDescriptor y.desc = some sig → argsL.length = sig.parameters.length) (hstack : g.stack = argsL.reverse ++ rest) (hW : 2 * g.monitorRoom + (rest.map fun v => v.category).sum ≤ W) (hdg : decode c.code g.pc = .ok (.invokestatic index, 3)) :
    ∃ (v : Option Value) (T' : State) (L : List Loc), Stand p l e R s m args below meth c T' (locs ++ L) (cells + rm.cells) (slots + rm.slots) ∧ Qc v T'.heap L ∧ ∀ target, Steps p.tables e below (T'.setTop { g with pc := g.pc + 3, stack := v.toList ++ rest }) target → Steps p.tables e below (T.setTop g) target := by
  obtain ⟨v, _, ⟨T2, L2, k2, n2⟩, -, X2, ⟨Lc2, hQ2, l2, y2, z2⟩, st2⟩ := Jvm.LawKit.callS X hx hown (mvT hZ w1) (mvT hZ w2) (mvT hZ w3) (mvT hZ w4) hy (backOf (W := W) hC hZ w4 w3 hf hl) hg hsize hlen hstack hW hdg (fun _ _ => ⟨rfl, eT, hc, hs⟩)
  dsimp only [Pt.U, Pt.locs, Pt.cells, Pt.slots] at X2 l2 y2 z2 st2 hQ2
  subst l2 y2 z2
  exact ⟨v, T2, Lc2, X2, hQ2, st2⟩
theorem callCt (X : Stand p l e R s m args below meth c T locs cells slots) (hx : p.tables.exec = Jvm.exec) (hZ : Z.Warmed39 s.vm) (hy1 : y.name = "<init>") (hown : s.vm.findClass own = some m.cls)
    (w1 : (Jvm.Cond.methodLink own index y).before a0 Z = true) (w2 : (Jvm.Cond.instanceMethod y).before a0 Z = true) (w3 : (Jvm.Cond.initialized y.cls).before a0 Z = true) (w4 : (Jvm.Cond.code y bytes maxL none).before a0 Z = true) (hy : y.cls ≠ "java/lang/invoke/MethodHandle" ∧ y.cls ≠ "java/lang/invoke/VarHandle")
    {a : Addr} (hC : Con FrameEnd l Z y bytes maxL none rm (.ref a :: argsL).toArray h Qc) (eT : T.heap = h) (hf : rm.frames + 1 ≤ R.frames) (hl : W + (maxL + 11) + rm.locals ≤ R.locals) (hc : cells + rm.cells ≤ R.cells) (hs : slots + rm.slots ≤ R.slots)
    (hg : g.method = m) (hsize : g.locals.size = c.maxLocals) (hlen : ∀ sig, parseMethodDescriptor y.desc = some sig → argsL.length = sig.parameters.length) (hstack : g.stack = argsL.reverse ++ .ref a :: rest) (hW : 2 * g.monitorRoom + (rest.map fun v => v.category).sum ≤ W) (hdg : decode c.code g.pc = .ok (.invokespecial index, 3)) :
    ∃ (v : Option Value) (T' : State) (L : List Loc), Stand p l e R s m args below meth c T' (locs ++ L) (cells + rm.cells) (slots + rm.slots) ∧ Qc v T'.heap L ∧ ∀ target, Steps p.tables e below (T'.setTop { g with pc := g.pc + 3, stack := v.toList ++ rest }) target → Steps p.tables e below (T.setTop g) target := by
  obtain ⟨v, _, ⟨T2, L2, k2, n2⟩, -, X2, ⟨Lc2, hQ2, l2, y2, z2⟩, st2⟩ := X.specialBack hx hy1 hown (mvT hZ w1) (mvT hZ w2) (mvT hZ w4) hy (backOf (W := W) hC hZ w4 w3 hf hl) hg hsize (Steps.refl _) hlen hstack hW hdg (fun _ _ => ⟨rfl, eT, hc, hs⟩)
  dsimp only [Pt.U, Pt.locs, Pt.cells, Pt.slots] at X2 l2 y2 z2 st2 hQ2
  subst l2 y2 z2
  exact ⟨v, T2, Lc2, X2, hQ2, fun _ k => st2.trans k⟩
theorem callVt {C : String} (X : Stand p l e R s m args below meth c T locs cells slots) (hx : p.tables.exec = Jvm.exec) (hZ : Z.Warmed39 s.vm) (hown : s.vm.findClass own = some m.cls)
    (w1 : (Jvm.Cond.methodLink own index y).before a0 Z = true) (w2 : (Jvm.Cond.declares y).before a0 Z = true) (w3 : (Jvm.Cond.selects C y y).before a0 Z = true) (w4 : (Jvm.Cond.instanceMethod y).before a0 Z = true) (w5 : (Jvm.Cond.initialized y.cls).before a0 Z = true) (w6 : (Jvm.Cond.code y bytes maxL ret).before a0 Z = true)
    (hy : y.cls ≠ "java/lang/invoke/MethodHandle" ∧ y.cls ≠ "java/lang/invoke/VarHandle")
    {a : Addr} (hC : Con FrameEnd l Z y bytes maxL ret rm (.ref a :: argsL).toArray h Qc) (eT : T.heap = h) (EA : Exa Z h a C) (hf : rm.frames + 1 ≤ R.frames) (hl : W + (maxL + 11) + rm.locals ≤ R.locals) (hc : cells + rm.cells ≤ R.cells) (hs : slots + rm.slots ≤ R.slots)
    (hg : g.method = m) (hsize : g.locals.size = c.maxLocals) (hlen : ∀ sig, parseMethodDescriptor y.desc = some sig → argsL.length = sig.parameters.length) (hstack : g.stack = argsL.reverse ++ .ref a :: rest) (hW : 2 * g.monitorRoom + (rest.map fun v => v.category).sum ≤ W) (hdg : decode c.code g.pc = .ok (.invokevirtual index, 3)) :
    ∃ (v : Option Value) (T' : State) (L : List Loc), Stand p l e R s m args below meth c T' (locs ++ L) (cells + rm.cells) (slots + rm.slots) ∧ Qc v T'.heap L ∧ ∀ target, Steps p.tables e below (T'.setTop { g with pc := g.pc + 3, stack := v.toList ++ rest }) target → Steps p.tables e below (T.setTop g) target := by
  obtain ⟨cq, kq, qa, qb, qc⟩ := isOf hZ eT EA
  obtain ⟨v, _, ⟨T2, L2, k2, n2⟩, -, X2, ⟨Lc2, hQ2, l2, y2, z2⟩, st2⟩ := X.virtualBack hx hown (mvT hZ w1) (mvT hZ w2) (notFace_of_selects (args := #[]) (mvT hZ w3)) (mvT hZ w3) (mvT hZ w4) hy (backOf (W := W) hC hZ w6 w5 hf hl) qa qc hg hsize (Steps.refl _) hlen hstack hW hdg (fun _ _ => ⟨rfl, eT, hc, hs⟩)
  dsimp only [Pt.U, Pt.locs, Pt.cells, Pt.slots] at X2 l2 y2 z2 st2 hQ2
  subst l2 y2 z2
  exact ⟨v, T2, Lc2, X2, hQ2, fun _ k => st2.trans k⟩
theorem callVUt {C owner : String} (X : Stand p l e R s m args below meth c T locs cells slots) (hx : p.tables.exec = Jvm.exec) (hZ : Z.Warmed39 s.vm) (hown : s.vm.findClass own = some m.cls)
    (w1 : (Jvm.Cond.methodLink own index y).before a0 Z = true) (w1' : (Jvm.Cond.sameMethod y.cls owner y.name y.desc).before a0 Z = true) (w2 : (Jvm.Cond.declares ⟨owner, y.name, y.desc⟩).before a0 Z = true) (w3 : (Jvm.Cond.selects C y z).before a0 Z = true) (w4 : (Jvm.Cond.instanceMethod z).before a0 Z = true) (w5 : (Jvm.Cond.initialized z.cls).before a0 Z = true) (w6 : (Jvm.Cond.code z bytes maxL ret).before a0 Z = true)
    (hy : owner ≠ "java/lang/invoke/MethodHandle" ∧ owner ≠ "java/lang/invoke/VarHandle")
    {a : Addr} (hC : Con FrameEnd l Z z bytes maxL ret rm (.ref a :: argsL).toArray h Qc) (eT : T.heap = h) (EA : Exa Z h a C) (hf : rm.frames + 1 ≤ R.frames) (hl : W + (maxL + 11) + rm.locals ≤ R.locals) (hc : cells + rm.cells ≤ R.cells) (hs : slots + rm.slots ≤ R.slots)
    (hg : g.method = m) (hsize : g.locals.size = c.maxLocals) (hlen : ∀ sig, parseMethodDescriptor y.desc = some sig → argsL.length = sig.parameters.length) (hstack : g.stack = argsL.reverse ++ .ref a :: rest) (hW : 2 * g.monitorRoom + (rest.map fun v => v.category).sum ≤ W) (hdg : decode c.code g.pc = .ok (.invokevirtual index, 3)) :
    ∃ (v : Option Value) (T' : State) (L : List Loc), Stand p l e R s m args below meth c T' (locs ++ L) (cells + rm.cells) (slots + rm.slots) ∧ Qc v T'.heap L ∧ ∀ target, Steps p.tables e below (T'.setTop { g with pc := g.pc + 3, stack := v.toList ++ rest }) target → Steps p.tables e below (T.setTop g) target := by
  obtain ⟨cq, kq, qa, qb, qc⟩ := isOf hZ eT EA
  obtain ⟨v, _, ⟨T2, L2, k2, n2⟩, -, X2, ⟨Lc2, hQ2, l2, y2, z2⟩, st2⟩ := X.virtualBackUp hx hown (mvT hZ w1) (mvT hZ w1') (mvT hZ w2) hy (mvT hZ w3) (mvT hZ w4) (backOf (W := W) hC hZ w6 w5 hf hl) qa qc hg hsize (Steps.refl _) hlen hstack hW hdg (fun _ _ => ⟨rfl, eT, hc, hs⟩)
  dsimp only [Pt.U, Pt.locs, Pt.cells, Pt.slots] at X2 l2 y2 z2 st2 hQ2
  subst l2 y2 z2
  exact ⟨v, T2, Lc2, X2, hQ2, fun _ k => st2.trans k⟩
end Calls
end OwnKit
section OwnWide
variable {p : Program} {l : Launch} {e : Env} {R : Room} {s s' : State} {m : MethodId} {args : Array Value} {below : List Frame} {meth : Method} {c : Code} {T T' : State} {locs : List Loc} {cells slots : Nat} {g g' : JFrame} {Z : State} {a0 : Array Value} {h : Heap} {Q : Option Value → Heap → List Loc → Prop} {k n : Nat} {vm0 : Vm} {k0 : Nat} {EL : List (String × Nat)}
/-- the wide frame, with the invariant on the String constants -/
def EH (Z : State) (EL : List (String × Nat)) : State → Outcome → State → List Loc → Nat → Nat → Prop := fun s o t L k n => CHr Z EL s.vm s.heap t.vm t.heap ∧ ReturnedEndW s o t L k n
abbrev ConHW (l : Launch) (Z : State) (EL : List (String × Nat)) (ws : List Jvm.Cond) (y : MethodName) (bytes : ByteArray) (maxL : Nat) (ret : Option FieldType) (rm : Room) (as' : Array Value) (h : Heap) (Q : Option Value → Heap → List Loc → Prop) : Prop :=
  MetFree l y (head1 (Jvm.Cond.code y bytes maxL ret :: ws) rm) (fun a U => a = as' ∧ Z.Warmed39 U.vm ∧ U.heap = h ∧ CHv Z EL U.vm h) (fun _ _ _ _ _ => True) (fun _ U o U' => ∃ v L, o = .returned v ∧ Q v U'.heap L ∧ CHr Z EL U.vm U.heap U'.vm U'.heap ∧ ReturnedEndW U o U' L rm.cells rm.slots)
abbrev ConH (l : Launch) (Z : State) (EL : List (String × Nat)) (y : MethodName) (bytes : ByteArray) (maxL : Nat) (ret : Option FieldType) (rm : Room) (as' : Array Value) (h : Heap) (Q : Option Value → Heap → List Loc → Prop) : Prop := ConHW l Z EL [] y bytes maxL ret rm as' h Q
theorem conOfH {ws : List Jvm.Cond} {y : MethodName} {bytes : ByteArray} {maxL : Nat} {ret : Option FieldType} {rm : Room} {as' : Array Value} (hpn : plainFor y = true)
    (body : ∀ (p : Program) (e : Env) (s : State) (m : MethodId) (below : List Frame) (meth : Method) (c : Code) (s₁ : State), Stand p l e rm (s.setVm s.vm) m as' below meth c s₁ [] 0 0 → p.tables.exec = Jvm.exec → c.code = bytes → c.maxLocals = maxL → (s.setVm s.vm).vm.findClass y.cls = some m.cls → meth.name = y.name →
      meth.sig.returnType = ret → meth.locks = false → Z.Warmed39 (s.setVm s.vm).vm → s₁.heap = h → s.Since s.vm 0 → CHr Z EL s.vm s.heap s.vm h → Fin (EH Z EL) p e below s Q rm.cells rm.slots s₁ (entryFrame m as' maxL)) : ConHW l Z EL ws y bytes maxL ret rm as' h Q := by
  refine MetFree.of_bodySF hpn hisR ?_
  intro p e s m args below meth c s₁ Bd hml hP hK
  obtain ⟨rfl, hZ, rfl, hC⟩ := hP
  exact body p e s m below meth c s₁ (Stand.of_body Bd) Bd.exec Bd.bytes hml (findClass_of_methodNamed Bd.named) (name_of_methodNamed Bd.named Bd.method).1 Bd.returns (BodyLoose.notSynchronized Bd) hZ (by rw [Bd.state]; rfl) ((State.WarmedH.refl s).since 0) (CHr.refl hC)
theorem Fin.leaveH (X : Stand p l e R (s.setVm vm0) m args below meth c T locs cells slots) (hS : s.Since vm0 k0) (hk0 : k0 ≤ h.size) (hZ : Z.Warmed39 (s.setVm vm0).vm) (hEL : EW Z a0 EL) (eT : T.heap = h) (RR : CHr Z EL s.vm s.heap vm0 h) (hlk : meth.locks = false) {v : Option Value} (hv : meth.sig.returnType = none → v = none) (hk : cells ≤ k) (hn : slots ≤ n) (hq : Q v h locs)
    (st : ∀ fs, (∀ (f : JFrame) (acts : List Action), f.method = m → f.locked = none → f.entered = [] → (doReturn e (T.setTop f) acts v).1 = T.setFrames fs) → Steps p.tables e below (T.setTop g) (T.setFrames fs)) : Fin (EH Z EL) p e below s Q k n T g := by
  subst eT
  obtain ⟨fs, hr, hrun, hended, h1, h2, h3, h4⟩ := X.leaveW hS hk0 hv hlk
  exact ⟨_, _, st fs hr, hrun, hended, v, locs, rfl, hq, RR.trans (CHv.at X hZ hEL RR.1 : CHr Z EL vm0 T.heap T.vm T.heap), h1, h2, h3, h4.mono hk hn⟩
section CallsH
variable {own : String} {index : Nat} {y z : MethodName} {bytes : ByteArray} {maxL : Nat} {ret : Option FieldType} {rm : Room} {W : Nat} {Qc : Option Value → Heap → List Loc → Prop} {argsL rest : List Value}
theorem callStH (X : Stand p l e R (s.setVm vm0) m args below meth c T locs cells slots) (hx : p.tables.exec = Jvm.exec) (hZ : Z.Warmed39 (s.setVm vm0).vm) (hown : (s.setVm vm0).vm.findClass own = some m.cls)
    (w1 : (Jvm.Cond.methodLink own index y).before a0 Z = true) (w2 : (Jvm.Cond.static y).before a0 Z = true) (w3 : (Jvm.Cond.initialized y.cls).before a0 Z = true) (w4 : (Jvm.Cond.code y bytes maxL ret).before a0 Z = true) (hy : y.cls ≠ "java/lang/invoke/MethodHandle" ∧ y.cls ≠ "java/lang/invoke/VarHandle")
    (hC : ConH l Z EL y bytes maxL ret rm argsL.toArray h Qc) (eT : T.heap = h) (hS : s.Since vm0 k0) (hk : k0 ≤ h.size) (hEL : EW Z a0 EL) (H : CHv Z EL vm0 h) (hf : rm.frames + 1 ≤ R.frames) (hl : W + (maxL + 11) + rm.locals ≤ R.locals) (hc : cells + rm.cells ≤ R.cells) (hs : slots + rm.slots ≤ R.slots)
    (hg : g.method = m) (hsize : g.locals.size = c.maxLocals) (hlen : ∀ sig, parseMethodDescriptor y.desc = some sig → argsL.length = sig.parameters.length) (hstack : g.stack = argsL.reverse ++ rest) (hW : 2 * g.monitorRoom + (rest.map fun v => v.category).sum ≤ W) (hdg : decode c.code g.pc = .ok (.invokestatic index, 3)) :
    ∃ (v : Option Value) (T' : State) (L : List Loc), Stand p l e R (s.setVm T'.vm) m args below meth c T' (locs ++ L) (cells + rm.cells) (slots + rm.slots) ∧ s.Since T'.vm T'.heap.size ∧ Z.Warmed39 (s.setVm T'.vm).vm ∧ (s.setVm T'.vm).vm.findClass own = some m.cls ∧ CHr Z EL vm0 h T'.vm T'.heap ∧ Qc v T'.heap L ∧
      ∀ target, Steps p.tables e below (T'.setTop { g with pc := g.pc + 3, stack := v.toList ++ rest }) target → Steps p.tables e below (T.setTop g) target := by
  obtain ⟨v, _, ⟨T2, L2, k2, n2⟩, -, X2, hS2, hg2, ⟨Lc2, hQ2, l2, y2, z2, hC2⟩, st2⟩ := callSS X hx hown (mvT hZ w1) (mvT hZ w2) (mvT hZ w3) (mvT hZ w4) hy (backOfSH (W := W) hC hZ w4 w3 hf hl hEL H) hg hsize hlen hstack hW hdg (fun _ _ => ⟨rfl, eT, hc, hs⟩)
  dsimp only [Pt.U, Pt.locs, Pt.cells, Pt.slots] at X2 hS2 hg2 l2 y2 z2 st2 hQ2 hC2
  subst l2 y2 z2 eT
  obtain ⟨X3, hS3, hZ3, hown3⟩ := rebS hS hk X2 hS2 hg2 hZ hown
  exact ⟨v, T2, Lc2, X3, hS3, hZ3, hown3, hC2, hQ2, fun _ k => st2.trans k⟩
theorem callCtH (X : Stand p l e R (s.setVm vm0) m args below meth c T locs cells slots) (hx : p.tables.exec = Jvm.exec) (hZ : Z.Warmed39 (s.setVm vm0).vm) (hy1 : y.name = "<init>") (hown : (s.setVm vm0).vm.findClass own = some m.cls)
    (w1 : (Jvm.Cond.methodLink own index y).before a0 Z = true) (w2 : (Jvm.Cond.instanceMethod y).before a0 Z = true) (w3 : (Jvm.Cond.initialized y.cls).before a0 Z = true) (w4 : (Jvm.Cond.code y bytes maxL none).before a0 Z = true) (hy : y.cls ≠ "java/lang/invoke/MethodHandle" ∧ y.cls ≠ "java/lang/invoke/VarHandle")
    {a : Addr} (hC : ConH l Z EL y bytes maxL none rm (.ref a :: argsL).toArray h Qc) (eT : T.heap = h) (hS : s.Since vm0 k0) (hk : k0 ≤ h.size) (hEL : EW Z a0 EL) (H : CHv Z EL vm0 h) (hf : rm.frames + 1 ≤ R.frames) (hl : W + (maxL + 11) + rm.locals ≤ R.locals) (hc : cells + rm.cells ≤ R.cells) (hs : slots + rm.slots ≤ R.slots)
    (hg : g.method = m) (hsize : g.locals.size = c.maxLocals) (hlen : ∀ sig, parseMethodDescriptor y.desc = some sig → argsL.length = sig.parameters.length) (hstack : g.stack = argsL.reverse ++ .ref a :: rest) (hW : 2 * g.monitorRoom + (rest.map fun v => v.category).sum ≤ W) (hdg : decode c.code g.pc = .ok (.invokespecial index, 3)) :
    ∃ (v : Option Value) (T' : State) (L : List Loc), Stand p l e R (s.setVm T'.vm) m args below meth c T' (locs ++ L) (cells + rm.cells) (slots + rm.slots) ∧ s.Since T'.vm T'.heap.size ∧ Z.Warmed39 (s.setVm T'.vm).vm ∧ (s.setVm T'.vm).vm.findClass own = some m.cls ∧ CHr Z EL vm0 h T'.vm T'.heap ∧ Qc v T'.heap L ∧
      ∀ target, Steps p.tables e below (T'.setTop { g with pc := g.pc + 3, stack := v.toList ++ rest }) target → Steps p.tables e below (T.setTop g) target := by
  obtain ⟨v, _, ⟨T2, L2, k2, n2⟩, -, X2, hS2, hg2, ⟨Lc2, hQ2, l2, y2, z2, hC2⟩, st2⟩ := X.specialBackS hx hy1 hown (mvT hZ w1) (mvT hZ w2) (mvT hZ w4) hy (backOfSH (W := W) hC hZ w4 w3 hf hl hEL H) hg hsize (Steps.refl _) hlen hstack hW hdg (fun _ _ => ⟨rfl, eT, hc, hs⟩)
  dsimp only [Pt.U, Pt.locs, Pt.cells, Pt.slots] at X2 hS2 hg2 l2 y2 z2 st2 hQ2 hC2
  subst l2 y2 z2 eT
  obtain ⟨X3, hS3, hZ3, hown3⟩ := rebS hS hk X2 hS2 hg2 hZ hown
  exact ⟨v, T2, Lc2, X3, hS3, hZ3, hown3, hC2, hQ2, fun _ k => st2.trans k⟩
theorem callVtH {C : String} (X : Stand p l e R (s.setVm vm0) m args below meth c T locs cells slots) (hx : p.tables.exec = Jvm.exec) (hZ : Z.Warmed39 (s.setVm vm0).vm) (hown : (s.setVm vm0).vm.findClass own = some m.cls)
    (w1 : (Jvm.Cond.methodLink own index y).before a0 Z = true) (w2 : (Jvm.Cond.declares y).before a0 Z = true) (w3 : (Jvm.Cond.selects C y y).before a0 Z = true) (w4 : (Jvm.Cond.instanceMethod y).before a0 Z = true) (w5 : (Jvm.Cond.initialized y.cls).before a0 Z = true) (w6 : (Jvm.Cond.code y bytes maxL ret).before a0 Z = true)
    (hy : y.cls ≠ "java/lang/invoke/MethodHandle" ∧ y.cls ≠ "java/lang/invoke/VarHandle")
    {a : Addr} (hC : ConH l Z EL y bytes maxL ret rm (.ref a :: argsL).toArray h Qc) (eT : T.heap = h) (EA : Exa Z h a C) (hS : s.Since vm0 k0) (hk : k0 ≤ h.size) (hEL : EW Z a0 EL) (H : CHv Z EL vm0 h) (hf : rm.frames + 1 ≤ R.frames) (hl : W + (maxL + 11) + rm.locals ≤ R.locals) (hc : cells + rm.cells ≤ R.cells) (hs : slots + rm.slots ≤ R.slots)
    (hg : g.method = m) (hsize : g.locals.size = c.maxLocals) (hlen : ∀ sig, parseMethodDescriptor y.desc = some sig → argsL.length = sig.parameters.length) (hstack : g.stack = argsL.reverse ++ .ref a :: rest) (hW : 2 * g.monitorRoom + (rest.map fun v => v.category).sum ≤ W) (hdg : decode c.code g.pc = .ok (.invokevirtual index, 3)) :
    ∃ (v : Option Value) (T' : State) (L : List Loc), Stand p l e R (s.setVm T'.vm) m args below meth c T' (locs ++ L) (cells + rm.cells) (slots + rm.slots) ∧ s.Since T'.vm T'.heap.size ∧ Z.Warmed39 (s.setVm T'.vm).vm ∧ (s.setVm T'.vm).vm.findClass own = some m.cls ∧ CHr Z EL vm0 h T'.vm T'.heap ∧ Qc v T'.heap L ∧
      ∀ target, Steps p.tables e below (T'.setTop { g with pc := g.pc + 3, stack := v.toList ++ rest }) target → Steps p.tables e below (T.setTop g) target := by
  obtain ⟨cq, kq, qa, qb, qc⟩ := isOf hZ eT EA
  obtain ⟨v, _, ⟨T2, L2, k2, n2⟩, -, X2, hS2, hg2, ⟨Lc2, hQ2, l2, y2, z2, hC2⟩, st2⟩ := X.virtualBackS hx hown (mvT hZ w1) (mvT hZ w2) (notFace_of_selects (args := #[]) (mvT hZ w3)) (mvT hZ w3) (mvT hZ w4) hy (backOfSH (W := W) hC hZ w6 w5 hf hl hEL H) qa qc hg hsize (Steps.refl _) hlen hstack hW hdg (fun _ _ => ⟨rfl, eT, hc, hs⟩)
  dsimp only [Pt.U, Pt.locs, Pt.cells, Pt.slots] at X2 hS2 hg2 l2 y2 z2 st2 hQ2 hC2
  subst l2 y2 z2 eT
  obtain ⟨X3, hS3, hZ3, hown3⟩ := rebS hS hk X2 hS2 hg2 hZ hown
  exact ⟨v, T2, Lc2, X3, hS3, hZ3, hown3, hC2, hQ2, fun _ k => st2.trans k⟩
end CallsH
end OwnWide
theorem safe_of_null {Z : State} {EL : List (String × Nat)} {vm : Vm} {h : Heap} {a : Addr} (hal : Z.vm.Alike vm) (E : Exa Z h a "java/lang/String") (F : Fld Z h a "java/lang/String" "value" "[B" .null) : Safe Z EL vm h a := fun B => by
  obtain ⟨p, hp, u, a', hb, q, hq, G, hy⟩ := B
  have g1 := G.ha
  have g2 := G.hd
  obtain ⟨cS, ⟨⟨-, -, -, ⟨c1, k1, i1, f1, -⟩, -, -, -, v1, -⟩, -⟩, -, fB, -⟩ := G
  rcases hy with rfl | rfl
  · obtain ⟨cell, cf, k, i, f, e1, e2, -, -, -, -, e7⟩ := F
    cases g1.symm.trans e1
    obtain ⟨k3, e3, -⟩ := State.fieldFound?_setVm (s := Z) hal e2
    have e4 := (show (Wst Z vm h).fieldFound? _ _ _ = _ from e3).symm.trans f1
    simp only [Option.some.injEq, Prod.mk.injEq] at e4
    rw [← e4.2.2.2, e7] at v1
    simp at v1
  · obtain ⟨cell, k, e1, e2, -⟩ := E
    cases g2.symm.trans e1
    have fB' : Z.vm.findClass "[B" = some q.SA.cls := by rw [← hal.findClass]; exact fB
    obtain ⟨k1, q1, q2⟩ := Vm.findClass_spec fB'
    obtain ⟨k2, q3, q4⟩ := Vm.findClass_spec e2
    cases q1.symm.trans q3
    exact absurd (q2.symm.trans q4) (by decide)
theorem w_0 : (Jvm.Cond.methodLink "com/example/grantwell/grantwell/catalog/ActionIsOnColumnPinLaw" (29 : Nat) ({ cls := "com/example/grantwell/grantwell/catalog/ActionIsOnColumnPinLaw", name := "pick", desc := "(I)Lcom/example/grantwell/grantwell/catalog/Privilege;" } : Jvm.MethodName)) ∈ tables_1 := List.mem_of_getElem? (i := 0) rfl
theorem w_1 : (Jvm.Cond.static ({ cls := "com/example/grantwell/grantwell/catalog/ActionIsOnColumnPinLaw", name := "pick", desc := "(I)Lcom/example/grantwell/grantwell/catalog/Privilege;" } : Jvm.MethodName)) ∈ tables_1 := List.mem_of_getElem? (i := 1) rfl
theorem w_2 : (Jvm.Cond.initialized "com/example/grantwell/grantwell/catalog/ActionIsOnColumnPinLaw") ∈ tables_1 := List.mem_of_getElem? (i := 2) rfl
theorem w_3 : (Jvm.Cond.code ({ cls := "com/example/grantwell/grantwell/catalog/ActionIsOnColumnPinLaw", name := "pick", desc := "(I)Lcom/example/grantwell/grantwell/catalog/Privilege;" } : Jvm.MethodName) method_2_code (2 : Nat) (Option.some (Jvm.ClassFile.FieldType.object "com/example/grantwell/grantwell/catalog/Privilege"))) ∈ tables_1 := List.mem_of_getElem? (i := 3) rfl
theorem w_4 : (Jvm.Cond.constant "com/example/grantwell/grantwell/catalog/ActionIsOnColumnPinLaw" (7 : Nat) (2147483647 : Int32)) ∈ tables_1 := List.mem_of_getElem? (i := 4) rfl
theorem w_5 : (Jvm.Cond.fieldLink "com/example/grantwell/grantwell/catalog/ActionIsOnColumnPinLaw" (8 : Nat) "com/example/grantwell/grantwell/catalog/Privilege" "SELECT" "Lcom/example/grantwell/grantwell/catalog/Privilege;") ∈ tables_1 := List.mem_of_getElem? (i := 5) rfl
theorem w_6 : (Jvm.Cond.initialized "com/example/grantwell/grantwell/catalog/Privilege") ∈ tables_1 := List.mem_of_getElem? (i := 6) rfl
theorem w_7 : (Jvm.Cond.laysStatic "com/example/grantwell/grantwell/catalog/Privilege" "SELECT" "Lcom/example/grantwell/grantwell/catalog/Privilege;") ∈ tables_1 := List.mem_of_getElem? (i := 7) rfl
theorem w_8 : (Jvm.Cond.fieldLink "com/example/grantwell/grantwell/catalog/ActionIsOnColumnPinLaw" (20 : Nat) "com/example/grantwell/grantwell/catalog/Privilege" "DELETE" "Lcom/example/grantwell/grantwell/catalog/Privilege;") ∈ tables_1 := List.mem_of_getElem? (i := 8) rfl
theorem w_9 : (Jvm.Cond.laysStatic "com/example/grantwell/grantwell/catalog/Privilege" "DELETE" "Lcom/example/grantwell/grantwell/catalog/Privilege;") ∈ tables_1 := List.mem_of_getElem? (i := 9) rfl
theorem w_10 : (Jvm.Cond.fieldLink "com/example/grantwell/grantwell/catalog/ActionIsOnColumnPinLaw" (26 : Nat) "com/example/grantwell/grantwell/catalog/Privilege" "USAGE" "Lcom/example/grantwell/grantwell/catalog/Privilege;") ∈ tables_1 := List.mem_of_getElem? (i := 10) rfl
theorem w_11 : (Jvm.Cond.laysStatic "com/example/grantwell/grantwell/catalog/Privilege" "USAGE" "Lcom/example/grantwell/grantwell/catalog/Privilege;") ∈ tables_1 := List.mem_of_getElem? (i := 11) rfl
theorem w_12 : (Jvm.Cond.classLink "com/example/grantwell/grantwell/catalog/ActionIsOnColumnPinLaw" (35 : Nat) "java/lang/String") ∈ tables_1 := List.mem_of_getElem? (i := 12) rfl
theorem w_13 : (Jvm.Cond.instantiable "java/lang/String" (4 : Nat)) ∈ tables_1 := List.mem_of_getElem? (i := 13) rfl
theorem w_14 : (Jvm.Cond.initialized "java/lang/String") ∈ tables_1 := List.mem_of_getElem? (i := 14) rfl
theorem w_15 : (Jvm.Cond.arrayClass Jvm.ClassFile.FieldType.char) ∈ tables_1 := List.mem_of_getElem? (i := 15) rfl
theorem w_16 : (Jvm.Cond.methodLink "com/example/grantwell/grantwell/catalog/ActionIsOnColumnPinLaw" (37 : Nat) ({ cls := "java/lang/String", name := "<init>", desc := "([C)V" } : Jvm.MethodName)) ∈ tables_1 := List.mem_of_getElem? (i := 16) rfl
theorem w_17 : (Jvm.Cond.instanceMethod ({ cls := "java/lang/String", name := "<init>", desc := "([C)V" } : Jvm.MethodName)) ∈ tables_1 := List.mem_of_getElem? (i := 17) rfl
theorem w_18 : (Jvm.Cond.code ({ cls := "java/lang/String", name := "<init>", desc := "([C)V" } : Jvm.MethodName) jdk_42_method_3_code (2 : Nat) (Option.none : Option Jvm.ClassFile.FieldType)) ∈ tables_1 := List.mem_of_getElem? (i := 18) rfl
theorem w_19 : (Jvm.Cond.methodLink "java/lang/String" (27 : Nat) ({ cls := "java/lang/String", name := "<init>", desc := "([CIILjava/lang/Void;)V" } : Jvm.MethodName)) ∈ tables_1 := List.mem_of_getElem? (i := 19) rfl
theorem w_20 : (Jvm.Cond.instanceMethod ({ cls := "java/lang/String", name := "<init>", desc := "([CIILjava/lang/Void;)V" } : Jvm.MethodName)) ∈ tables_1 := List.mem_of_getElem? (i := 20) rfl
theorem w_22 : (Jvm.Cond.code ({ cls := "java/lang/String", name := "<init>", desc := "([CIILjava/lang/Void;)V" } : Jvm.MethodName) jdk_42_method_149_code (6 : Nat) (Option.none : Option Jvm.ClassFile.FieldType)) ∈ tables_1 := List.mem_of_getElem? (i := 22) rfl
theorem w_23 : (Jvm.Cond.methodLink "java/lang/String" (1 : Nat) ({ cls := "java/lang/Object", name := "<init>", desc := "()V" } : Jvm.MethodName)) ∈ tables_1 := List.mem_of_getElem? (i := 23) rfl
theorem w_24 : (Jvm.Cond.instanceMethod ({ cls := "java/lang/Object", name := "<init>", desc := "()V" } : Jvm.MethodName)) ∈ tables_1 := List.mem_of_getElem? (i := 24) rfl
theorem w_25 : (Jvm.Cond.code ({ cls := "java/lang/Object", name := "<init>", desc := "()V" } : Jvm.MethodName) object_method_1_code (1 : Nat) (Option.none : Option Jvm.ClassFile.FieldType)) ∈ tables_1 := List.mem_of_getElem? (i := 25) rfl
theorem w_26 : (Jvm.Cond.stringLink "java/lang/String" (7 : Nat) "") ∈ tables_1 := List.mem_of_getElem? (i := 26) rfl
theorem w_27 : (Jvm.Cond.arrayClass Jvm.ClassFile.FieldType.byte) ∈ tables_1 := List.mem_of_getElem? (i := 27) rfl
theorem w_28 : (Jvm.Cond.laysFinal "java/lang/String" "java/lang/String" "value" "[B") ∈ tables_1 := List.mem_of_getElem? (i := 28) rfl
theorem w_29 : (Jvm.Cond.laysFinal "java/lang/String" "java/lang/String" "coder" "B") ∈ tables_1 := List.mem_of_getElem? (i := 29) rfl
theorem w_32 : (Jvm.Cond.fieldLink "java/lang/String" (9 : Nat) "java/lang/String" "value" "[B") ∈ tables_1 := List.mem_of_getElem? (i := 32) rfl
theorem w_33 : (Jvm.Cond.fieldLink "java/lang/String" (15 : Nat) "java/lang/String" "coder" "B") ∈ tables_1 := List.mem_of_getElem? (i := 33) rfl
theorem w_34 : (Jvm.Cond.classLink "com/example/grantwell/grantwell/catalog/ActionIsOnColumnPinLaw" (40 : Nat) "com/example/grantwell/grantwell/catalog/Action") ∈ tables_1 := List.mem_of_getElem? (i := 34) rfl
theorem w_35 : (Jvm.Cond.instantiable "com/example/grantwell/grantwell/catalog/Action" (2 : Nat)) ∈ tables_1 := List.mem_of_getElem? (i := 35) rfl
theorem w_36 : (Jvm.Cond.initialized "com/example/grantwell/grantwell/catalog/Action") ∈ tables_1 := List.mem_of_getElem? (i := 36) rfl
theorem w_37 : (Jvm.Cond.methodLink "com/example/grantwell/grantwell/catalog/ActionIsOnColumnPinLaw" (42 : Nat) ({ cls := "com/example/grantwell/grantwell/catalog/Action", name := "<init>", desc := "(Lcom/example/grantwell/grantwell/catalog/Privilege;Ljava/lang/String;)V" } : Jvm.MethodName)) ∈ tables_1 := List.mem_of_getElem? (i := 37) rfl
theorem w_38 : (Jvm.Cond.instanceMethod ({ cls := "com/example/grantwell/grantwell/catalog/Action", name := "<init>", desc := "(Lcom/example/grantwell/grantwell/catalog/Privilege;Ljava/lang/String;)V" } : Jvm.MethodName)) ∈ tables_1 := List.mem_of_getElem? (i := 38) rfl
theorem w_39 : (Jvm.Cond.code ({ cls := "com/example/grantwell/grantwell/catalog/Action", name := "<init>", desc := "(Lcom/example/grantwell/grantwell/catalog/Privilege;Ljava/lang/String;)V" } : Jvm.MethodName) prog_3_method_1_code (3 : Nat) (Option.none : Option Jvm.ClassFile.FieldType)) ∈ tables_1 := List.mem_of_getElem? (i := 39) rfl
theorem w_40 : (Jvm.Cond.methodLink "com/example/grantwell/grantwell/catalog/Action" (1 : Nat) ({ cls := "java/lang/Record", name := "<init>", desc := "()V" } : Jvm.MethodName)) ∈ tables_1 := List.mem_of_getElem? (i := 40) rfl
theorem w_41 : (Jvm.Cond.instanceMethod ({ cls := "java/lang/Record", name := "<init>", desc := "()V" } : Jvm.MethodName)) ∈ tables_1 := List.mem_of_getElem? (i := 41) rfl
theorem w_43 : (Jvm.Cond.initialized "java/lang/Record") ∈ tables_1 := List.mem_of_getElem? (i := 43) rfl
theorem w_44 : (Jvm.Cond.code ({ cls := "java/lang/Record", name := "<init>", desc := "()V" } : Jvm.MethodName) jdk_30_method_1_code (1 : Nat) (Option.none : Option Jvm.ClassFile.FieldType)) ∈ tables_1 := List.mem_of_getElem? (i := 44) rfl
theorem w_45 : (Jvm.Cond.methodLink "java/lang/Record" (1 : Nat) ({ cls := "java/lang/Object", name := "<init>", desc := "()V" } : Jvm.MethodName)) ∈ tables_1 := List.mem_of_getElem? (i := 45) rfl
theorem w_46 : (Jvm.Cond.stringLink "com/example/grantwell/grantwell/catalog/Action" (7 : Nat) "privilege") ∈ tables_1 := List.mem_of_getElem? (i := 46) rfl
theorem w_47 : (Jvm.Cond.methodLink "com/example/grantwell/grantwell/catalog/Action" (9 : Nat) ({ cls := "java/util/Objects", name := "requireNonNull", desc := "(Ljava/lang/Object;Ljava/lang/String;)Ljava/lang/Object;" } : Jvm.MethodName)) ∈ tables_1 := List.mem_of_getElem? (i := 47) rfl
theorem w_48 : (Jvm.Cond.static ({ cls := "java/util/Objects", name := "requireNonNull", desc := "(Ljava/lang/Object;Ljava/lang/String;)Ljava/lang/Object;" } : Jvm.MethodName)) ∈ tables_1 := List.mem_of_getElem? (i := 48) rfl
theorem w_49 : (Jvm.Cond.initialized "java/util/Objects") ∈ tables_1 := List.mem_of_getElem? (i := 49) rfl
theorem w_50 : (Jvm.Cond.code ({ cls := "java/util/Objects", name := "requireNonNull", desc := "(Ljava/lang/Object;Ljava/lang/String;)Ljava/lang/Object;" } : Jvm.MethodName) jdk_31_method_11_code (2 : Nat) (Option.some (Jvm.ClassFile.FieldType.object "java/lang/Object"))) ∈ tables_1 := List.mem_of_getElem? (i := 50) rfl
theorem w_51 : (Jvm.Cond.methodLink "com/example/grantwell/grantwell/catalog/Action" (15 : Nat) ({ cls := "com/example/grantwell/grantwell/catalog/Privilege", name := "isOnColumns", desc := "()Z" } : Jvm.MethodName)) ∈ tables_1 := List.mem_of_getElem? (i := 51) rfl
theorem w_52 : (Jvm.Cond.declares ({ cls := "com/example/grantwell/grantwell/catalog/Privilege", name := "isOnColumns", desc := "()Z" } : Jvm.MethodName)) ∈ tables_1 := List.mem_of_getElem? (i := 52) rfl
theorem w_53 : (Jvm.Cond.instanceMethod ({ cls := "com/example/grantwell/grantwell/catalog/Privilege", name := "isOnColumns", desc := "()Z" } : Jvm.MethodName)) ∈ tables_1 := List.mem_of_getElem? (i := 53) rfl
theorem w_54 : (Jvm.Cond.selects "com/example/grantwell/grantwell/catalog/Privilege" ({ cls := "com/example/grantwell/grantwell/catalog/Privilege", name := "isOnColumns", desc := "()Z" } : Jvm.MethodName) ({ cls := "com/example/grantwell/grantwell/catalog/Privilege", name := "isOnColumns", desc := "()Z" } : Jvm.MethodName)) ∈ tables_1 := List.mem_of_getElem? (i := 54) rfl
theorem w_55 : (Jvm.Cond.code ({ cls := "com/example/grantwell/grantwell/catalog/Privilege", name := "isOnColumns", desc := "()Z" } : Jvm.MethodName) prog_49_method_4_code (1 : Nat) (Option.some Jvm.ClassFile.FieldType.boolean)) ∈ tables_1 := List.mem_of_getElem? (i := 55) rfl
theorem w_56 : (Jvm.Cond.fieldLink "com/example/grantwell/grantwell/catalog/Privilege" (41 : Nat) "com/example/grantwell/grantwell/catalog/Privilege" "onColumns" "Z") ∈ tables_1 := List.mem_of_getElem? (i := 56) rfl
theorem w_58 : (Jvm.Cond.fieldLink "com/example/grantwell/grantwell/catalog/Action" (36 : Nat) "com/example/grantwell/grantwell/catalog/Action" "privilege" "Lcom/example/grantwell/grantwell/catalog/Privilege;") ∈ tables_1 := List.mem_of_getElem? (i := 58) rfl
theorem w_59 : (Jvm.Cond.laysFinal "com/example/grantwell/grantwell/catalog/Action" "com/example/grantwell/grantwell/catalog/Action" "privilege" "Lcom/example/grantwell/grantwell/catalog/Privilege;") ∈ tables_1 := List.mem_of_getElem? (i := 59) rfl
theorem w_60 : (Jvm.Cond.fieldLink "com/example/grantwell/grantwell/catalog/Action" (41 : Nat) "com/example/grantwell/grantwell/catalog/Action" "column" "Ljava/lang/String;") ∈ tables_1 := List.mem_of_getElem? (i := 60) rfl
theorem w_61 : (Jvm.Cond.laysFinal "com/example/grantwell/grantwell/catalog/Action" "com/example/grantwell/grantwell/catalog/Action" "column" "Ljava/lang/String;") ∈ tables_1 := List.mem_of_getElem? (i := 61) rfl
theorem w_62 : (Jvm.Cond.methodLink "com/example/grantwell/grantwell/catalog/ActionIsOnColumnPinLaw" (45 : Nat) ({ cls := "com/example/grantwell/grantwell/catalog/Action", name := "isOnColumn", desc := "()Z" } : Jvm.MethodName)) ∈ tables_1 := List.mem_of_getElem? (i := 62) rfl
theorem w_63 : (Jvm.Cond.declares ({ cls := "com/example/grantwell/grantwell/catalog/Action", name := "isOnColumn", desc := "()Z" } : Jvm.MethodName)) ∈ tables_1 := List.mem_of_getElem? (i := 63) rfl
theorem w_64 : (Jvm.Cond.instanceMethod ({ cls := "com/example/grantwell/grantwell/catalog/Action", name := "isOnColumn", desc := "()Z" } : Jvm.MethodName)) ∈ tables_1 := List.mem_of_getElem? (i := 64) rfl
theorem w_65 : (Jvm.Cond.selects "com/example/grantwell/grantwell/catalog/Action" ({ cls := "com/example/grantwell/grantwell/catalog/Action", name := "isOnColumn", desc := "()Z" } : Jvm.MethodName) ({ cls := "com/example/grantwell/grantwell/catalog/Action", name := "isOnColumn", desc := "()Z" } : Jvm.MethodName)) ∈ tables_1 := List.mem_of_getElem? (i := 65) rfl
theorem w_66 : (Jvm.Cond.code ({ cls := "com/example/grantwell/grantwell/catalog/Action", name := "isOnColumn", desc := "()Z" } : Jvm.MethodName) prog_3_method_3_code (1 : Nat) (Option.some Jvm.ClassFile.FieldType.boolean)) ∈ tables_1 := List.mem_of_getElem? (i := 66) rfl
theorem w_67 : (Jvm.Cond.methodLink "com/example/grantwell/grantwell/catalog/ActionIsOnColumnPinLaw" (49 : Nat) ({ cls := "com/example/grantwell/grantwell/catalog/Action", name := "onTable", desc := "(Lcom/example/grantwell/grantwell/catalog/Privilege;)Lcom/example/grantwell/grantwell/catalog/Action;" } : Jvm.MethodName)) ∈ tables_1 := List.mem_of_getElem? (i := 67) rfl
theorem w_68 : (Jvm.Cond.static ({ cls := "com/example/grantwell/grantwell/catalog/Action", name := "onTable", desc := "(Lcom/example/grantwell/grantwell/catalog/Privilege;)Lcom/example/grantwell/grantwell/catalog/Action;" } : Jvm.MethodName)) ∈ tables_1 := List.mem_of_getElem? (i := 68) rfl
theorem w_69 : (Jvm.Cond.code ({ cls := "com/example/grantwell/grantwell/catalog/Action", name := "onTable", desc := "(Lcom/example/grantwell/grantwell/catalog/Privilege;)Lcom/example/grantwell/grantwell/catalog/Action;" } : Jvm.MethodName) prog_3_method_2_code (1 : Nat) (Option.some (Jvm.ClassFile.FieldType.object "com/example/grantwell/grantwell/catalog/Action"))) ∈ tables_1 := List.mem_of_getElem? (i := 69) rfl
theorem w_70 : (Jvm.Cond.classLink "com/example/grantwell/grantwell/catalog/Action" (37 : Nat) "com/example/grantwell/grantwell/catalog/Action") ∈ tables_1 := List.mem_of_getElem? (i := 70) rfl
theorem w_71 : (Jvm.Cond.methodLink "com/example/grantwell/grantwell/catalog/Action" (45 : Nat) ({ cls := "com/example/grantwell/grantwell/catalog/Action", name := "<init>", desc := "(Lcom/example/grantwell/grantwell/catalog/Privilege;Ljava/lang/String;)V" } : Jvm.MethodName)) ∈ tables_1 := List.mem_of_getElem? (i := 71) rfl
theorem w_72 : (Jvm.Cond.fieldLink "com/example/grantwell/grantwell/catalog/ActionIsOnColumnPinLaw" (14 : Nat) "com/example/grantwell/grantwell/catalog/Privilege" "INSERT" "Lcom/example/grantwell/grantwell/catalog/Privilege;") ∈ tables_1 := List.mem_of_getElem? (i := 72) rfl
theorem w_73 : (Jvm.Cond.laysStatic "com/example/grantwell/grantwell/catalog/Privilege" "INSERT" "Lcom/example/grantwell/grantwell/catalog/Privilege;") ∈ tables_1 := List.mem_of_getElem? (i := 73) rfl
theorem w_74 : (Jvm.Cond.fieldLink "com/example/grantwell/grantwell/catalog/ActionIsOnColumnPinLaw" (23 : Nat) "com/example/grantwell/grantwell/catalog/Privilege" "REFERENCES" "Lcom/example/grantwell/grantwell/catalog/Privilege;") ∈ tables_1 := List.mem_of_getElem? (i := 74) rfl
theorem w_75 : (Jvm.Cond.laysStatic "com/example/grantwell/grantwell/catalog/Privilege" "REFERENCES" "Lcom/example/grantwell/grantwell/catalog/Privilege;") ∈ tables_1 := List.mem_of_getElem? (i := 75) rfl
theorem w_76 : (Jvm.Cond.fieldLink "java/lang/String" (38 : Nat) "java/lang/String" "COMPACT_STRINGS" "Z") ∈ tables_1 := List.mem_of_getElem? (i := 76) rfl
theorem w_77 : (Jvm.Cond.methodLink "java/lang/String" (177 : Nat) ({ cls := "java/lang/StringUTF16", name := "compress", desc := "([CII)[B" } : Jvm.MethodName)) ∈ tables_1 := List.mem_of_getElem? (i := 77) rfl
theorem w_78 : (Jvm.Cond.static ({ cls := "java/lang/StringUTF16", name := "compress", desc := "([CII)[B" } : Jvm.MethodName)) ∈ tables_1 := List.mem_of_getElem? (i := 78) rfl
theorem w_79 : (Jvm.Cond.initialized "java/lang/StringUTF16") ∈ tables_1 := List.mem_of_getElem? (i := 79) rfl
theorem w_80 : (Jvm.Cond.code ({ cls := "java/lang/StringUTF16", name := "compress", desc := "([CII)[B" } : Jvm.MethodName) jdk_52_method_16_code (6 : Nat) (Option.some (Jvm.ClassFile.FieldType.array Jvm.ClassFile.FieldType.byte))) ∈ tables_1 := List.mem_of_getElem? (i := 80) rfl
theorem w_81 : (Jvm.Cond.methodLink "java/lang/StringUTF16" (115 : Nat) ({ cls := "java/lang/StringUTF16", name := "compress", desc := "([CI[BII)I" } : Jvm.MethodName)) ∈ tables_1 := List.mem_of_getElem? (i := 81) rfl
theorem w_82 : (Jvm.Cond.static ({ cls := "java/lang/StringUTF16", name := "compress", desc := "([CI[BII)I" } : Jvm.MethodName)) ∈ tables_1 := List.mem_of_getElem? (i := 82) rfl
theorem w_83 : (Jvm.Cond.code ({ cls := "java/lang/StringUTF16", name := "compress", desc := "([CI[BII)I" } : Jvm.MethodName) jdk_52_method_21_code (7 : Nat) (Option.some Jvm.ClassFile.FieldType.int)) ∈ tables_1 := List.mem_of_getElem? (i := 83) rfl
theorem w_84 : (Jvm.Cond.methodLink "java/lang/String" (47 : Nat) ({ cls := "java/lang/StringUTF16", name := "coderFromArrayLen", desc := "([BI)B" } : Jvm.MethodName)) ∈ tables_1 := List.mem_of_getElem? (i := 84) rfl
theorem w_85 : (Jvm.Cond.static ({ cls := "java/lang/StringUTF16", name := "coderFromArrayLen", desc := "([BI)B" } : Jvm.MethodName)) ∈ tables_1 := List.mem_of_getElem? (i := 85) rfl
theorem w_86 : (Jvm.Cond.code ({ cls := "java/lang/StringUTF16", name := "coderFromArrayLen", desc := "([BI)B" } : Jvm.MethodName) jdk_52_method_15_code (2 : Nat) (Option.some Jvm.ClassFile.FieldType.byte)) ∈ tables_1 := List.mem_of_getElem? (i := 86) rfl
theorem w_87 : (Jvm.Cond.fieldLink "com/example/grantwell/grantwell/catalog/ActionIsOnColumnPinLaw" (17 : Nat) "com/example/grantwell/grantwell/catalog/Privilege" "UPDATE" "Lcom/example/grantwell/grantwell/catalog/Privilege;") ∈ tables_1 := List.mem_of_getElem? (i := 87) rfl
theorem w_88 : (Jvm.Cond.laysStatic "com/example/grantwell/grantwell/catalog/Privilege" "UPDATE" "Lcom/example/grantwell/grantwell/catalog/Privilege;") ∈ tables_1 := List.mem_of_getElem? (i := 88) rfl
theorem pn_java_lang_StringUTF16 : plainName "java/lang/StringUTF16" = true := by first | (simp [plainName, overriddenIn]; done) | decide +kernel
theorem d12_0 : decode jdk_52_method_21_code 0 = .ok (.iconst 0, 1) := by decide +kernel
theorem d12_1 : decode jdk_52_method_21_code 1 = .ok (.istore 5, 2) := by decide +kernel
theorem d12_3 : decode jdk_52_method_21_code 3 = .ok (.iload 5, 2) := by decide +kernel
theorem d12_5 : decode jdk_52_method_21_code 5 = .ok (.iload 4, 2) := by decide +kernel
theorem d12_7 : decode jdk_52_method_21_code 7 = .ok (.if_icmp .ge 37, 3) := by decide +kernel
theorem d12_10 : decode jdk_52_method_21_code 10 = .ok (.aload_n 0, 1) := by decide +kernel
theorem d12_11 : decode jdk_52_method_21_code 11 = .ok (.iload_n 1, 1) := by decide +kernel
theorem d12_12 : decode jdk_52_method_21_code 12 = .ok (.caload, 1) := by decide +kernel
theorem d12_13 : decode jdk_52_method_21_code 13 = .ok (.istore 6, 2) := by decide +kernel
theorem d12_15 : decode jdk_52_method_21_code 15 = .ok (.iload 6, 2) := by decide +kernel
theorem d12_17 : decode jdk_52_method_21_code 17 = .ok (.sipush 255, 3) := by decide +kernel
theorem d12_20 : decode jdk_52_method_21_code 20 = .ok (.if_icmp .le 6, 3) := by decide +kernel
theorem d12_26 : decode jdk_52_method_21_code 26 = .ok (.aload_n 2, 1) := by decide +kernel
theorem d12_27 : decode jdk_52_method_21_code 27 = .ok (.iload_n 3, 1) := by decide +kernel
theorem d12_28 : decode jdk_52_method_21_code 28 = .ok (.iload 6, 2) := by decide +kernel
theorem d12_30 : decode jdk_52_method_21_code 30 = .ok (.i2b, 1) := by decide +kernel
theorem d12_31 : decode jdk_52_method_21_code 31 = .ok (.bastore, 1) := by decide +kernel
theorem d12_32 : decode jdk_52_method_21_code 32 = .ok (.iinc 1 1, 3) := by decide +kernel
theorem d12_35 : decode jdk_52_method_21_code 35 = .ok (.iinc 3 1, 3) := by decide +kernel
theorem d12_38 : decode jdk_52_method_21_code 38 = .ok (.iinc 5 1, 3) := by decide +kernel
theorem d12_41 : decode jdk_52_method_21_code 41 = .ok (.goto (-38), 3) := by decide +kernel
theorem d12_44 : decode jdk_52_method_21_code 44 = .ok (.iload 4, 2) := by decide +kernel
theorem d12_46 : decode jdk_52_method_21_code 46 = .ok (.ireturn, 1) := by decide +kernel
theorem d11_0 : decode jdk_52_method_16_code 0 = .ok (.iload_n 2, 1) := by decide +kernel
theorem d11_1 : decode jdk_52_method_16_code 1 = .ok (.newarray .byte, 2) := by decide +kernel
theorem d11_3 : decode jdk_52_method_16_code 3 = .ok (.astore_n 3, 1) := by decide +kernel
theorem d11_4 : decode jdk_52_method_16_code 4 = .ok (.aload_n 0, 1) := by decide +kernel
theorem d11_5 : decode jdk_52_method_16_code 5 = .ok (.iload_n 1, 1) := by decide +kernel
theorem d11_6 : decode jdk_52_method_16_code 6 = .ok (.aload_n 3, 1) := by decide +kernel
theorem d11_7 : decode jdk_52_method_16_code 7 = .ok (.iconst 0, 1) := by decide +kernel
theorem d11_8 : decode jdk_52_method_16_code 8 = .ok (.iload_n 2, 1) := by decide +kernel
theorem d11_9 : decode jdk_52_method_16_code 9 = .ok (.invokestatic 115, 3) := by decide +kernel
theorem pd_oACIABIIcI : parseMethodDescriptor "([CI[BII)I" = some ⟨[(.array .char), .int, (.array .byte), .int, .int], some .int⟩ := by decide +kernel
theorem d11_12 : decode jdk_52_method_16_code 12 = .ok (.istore 4, 2) := by decide +kernel
theorem d11_14 : decode jdk_52_method_16_code 14 = .ok (.iload 4, 2) := by decide +kernel
theorem d11_16 : decode jdk_52_method_16_code 16 = .ok (.iload_n 2, 1) := by decide +kernel
theorem d11_17 : decode jdk_52_method_16_code 17 = .ok (.if_icmp .eq 40, 3) := by decide +kernel
theorem d11_57 : decode jdk_52_method_16_code 57 = .ok (.aload_n 3, 1) := by decide +kernel
theorem d11_58 : decode jdk_52_method_16_code 58 = .ok (.areturn, 1) := by decide +kernel
theorem d13_0 : decode jdk_52_method_15_code 0 = .ok (.iload_n 1, 1) := by decide +kernel
theorem d13_1 : decode jdk_52_method_15_code 1 = .ok (.aload_n 0, 1) := by decide +kernel
theorem d13_2 : decode jdk_52_method_15_code 2 = .ok (.arraylength, 1) := by decide +kernel
theorem d13_3 : decode jdk_52_method_15_code 3 = .ok (.isub, 1) := by decide +kernel
theorem d13_4 : decode jdk_52_method_15_code 4 = .ok (.bipush 31, 2) := by decide +kernel
theorem d13_6 : decode jdk_52_method_15_code 6 = .ok (.iushr, 1) := by decide +kernel
theorem d13_7 : decode jdk_52_method_15_code 7 = .ok (.i2b, 1) := by decide +kernel
theorem d13_8 : decode jdk_52_method_15_code 8 = .ok (.ireturn, 1) := by decide +kernel
theorem pn_java_lang_String : plainName "java/lang/String" = true := by first | (simp [plainName, overriddenIn]; done) | decide +kernel
theorem d3_0 : decode jdk_42_method_149_code 0 = .ok (.aload_n 0, 1) := by decide +kernel
theorem d3_1 : decode jdk_42_method_149_code 1 = .ok (.invokespecial 1, 3) := by decide +kernel
theorem d3_4 : decode jdk_42_method_149_code 4 = .ok (.iload_n 3, 1) := by decide +kernel
theorem d3_5 : decode jdk_42_method_149_code 5 = .ok (.ifCond .ne 22, 3) := by decide +kernel
theorem d3_27 : decode jdk_42_method_149_code 27 = .ok (.getstatic 38, 3) := by decide +kernel
theorem d3_30 : decode jdk_42_method_149_code 30 = .ok (.ifCond .eq 28, 3) := by decide +kernel
theorem d3_33 : decode jdk_42_method_149_code 33 = .ok (.aload_n 1, 1) := by decide +kernel
theorem d3_34 : decode jdk_42_method_149_code 34 = .ok (.iload_n 2, 1) := by decide +kernel
theorem d3_35 : decode jdk_42_method_149_code 35 = .ok (.iload_n 3, 1) := by decide +kernel
theorem d3_36 : decode jdk_42_method_149_code 36 = .ok (.invokestatic 177, 3) := by decide +kernel
theorem pd_oACIIcAB : parseMethodDescriptor "([CII)[B" = some ⟨[(.array .char), .int, .int], some (.array .byte)⟩ := by decide +kernel
theorem d3_39 : decode jdk_42_method_149_code 39 = .ok (.astore 5, 2) := by decide +kernel
theorem d3_41 : decode jdk_42_method_149_code 41 = .ok (.aload_n 0, 1) := by decide +kernel
theorem d3_42 : decode jdk_42_method_149_code 42 = .ok (.aload 5, 2) := by decide +kernel
theorem d3_44 : decode jdk_42_method_149_code 44 = .ok (.iload_n 3, 1) := by decide +kernel
theorem d3_45 : decode jdk_42_method_149_code 45 = .ok (.invokestatic 47, 3) := by decide +kernel
theorem pd_oABIcB : parseMethodDescriptor "([BI)B" = some ⟨[(.array .byte), .int], some .byte⟩ := by decide +kernel
theorem d3_48 : decode jdk_42_method_149_code 48 = .ok (.putfield 15, 3) := by decide +kernel
theorem d3_51 : decode jdk_42_method_149_code 51 = .ok (.aload_n 0, 1) := by decide +kernel
theorem d3_52 : decode jdk_42_method_149_code 52 = .ok (.aload 5, 2) := by decide +kernel
theorem d3_54 : decode jdk_42_method_149_code 54 = .ok (.putfield 9, 3) := by decide +kernel
theorem d3_57 : decode jdk_42_method_149_code 57 = .ok (.return_, 1) := by decide +kernel
theorem d2_0 : decode jdk_42_method_3_code 0 = .ok (.aload_n 0, 1) := by decide +kernel
theorem d2_1 : decode jdk_42_method_3_code 1 = .ok (.aload_n 1, 1) := by decide +kernel
theorem d2_2 : decode jdk_42_method_3_code 2 = .ok (.iconst 0, 1) := by decide +kernel
theorem d2_3 : decode jdk_42_method_3_code 3 = .ok (.aload_n 1, 1) := by decide +kernel
theorem d2_4 : decode jdk_42_method_3_code 4 = .ok (.arraylength, 1) := by decide +kernel
theorem d2_5 : decode jdk_42_method_3_code 5 = .ok (.aconst_null, 1) := by decide +kernel
theorem d2_6 : decode jdk_42_method_3_code 6 = .ok (.invokespecial 27, 3) := by decide +kernel
theorem pd_oACIILjava_lang_Void_cV : parseMethodDescriptor "([CIILjava/lang/Void;)V" = some ⟨[(.array .char), .int, .int, (.object "java/lang/Void")], none⟩ := by decide +kernel
theorem d2_9 : decode jdk_42_method_3_code 9 = .ok (.return_, 1) := by decide +kernel
theorem d3_8 : decode jdk_42_method_149_code 8 = .ok (.aload_n 0, 1) := by decide +kernel
theorem d3_9 : decode jdk_42_method_149_code 9 = .ok (.ldc 7, 2) := by decide +kernel
theorem d3_11 : decode jdk_42_method_149_code 11 = .ok (.getfield 9, 3) := by decide +kernel
theorem d3_14 : decode jdk_42_method_149_code 14 = .ok (.putfield 9, 3) := by decide +kernel
theorem d3_17 : decode jdk_42_method_149_code 17 = .ok (.aload_n 0, 1) := by decide +kernel
theorem d3_18 : decode jdk_42_method_149_code 18 = .ok (.ldc 7, 2) := by decide +kernel
theorem d3_20 : decode jdk_42_method_149_code 20 = .ok (.getfield 15, 3) := by decide +kernel
theorem d3_23 : decode jdk_42_method_149_code 23 = .ok (.putfield 15, 3) := by decide +kernel
theorem d3_26 : decode jdk_42_method_149_code 26 = .ok (.return_, 1) := by decide +kernel
theorem pn_com_example_grantwell_grantwell_catalog_ActionIsOnColumnPinLaw : plainName "com/example/grantwell/grantwell/catalog/ActionIsOnColumnPinLaw" = true := by first | (simp [plainName, overriddenIn]; done) | decide +kernel
theorem d1_0 : decode method_2_code 0 = .ok (.iload_n 0, 1) := by decide +kernel
theorem d1_1 : decode method_2_code 1 = .ok (.ldc 7, 2) := by decide +kernel
theorem d1_3 : decode method_2_code 3 = .ok (.iand, 1) := by decide +kernel
theorem d1_4 : decode method_2_code 4 = .ok (.bipush 6, 2) := by decide +kernel
theorem d1_6 : decode method_2_code 6 = .ok (.irem, 1) := by decide +kernel
theorem d1_7 : decode method_2_code 7 = .ok (.istore_n 1, 1) := by decide +kernel
theorem d1_8 : decode method_2_code 8 = .ok (.iload_n 1, 1) := by decide +kernel
theorem d1_9 : decode method_2_code 9 = .ok (.ifCond .ne 7, 3) := by decide +kernel
theorem d1_12 : decode method_2_code 12 = .ok (.getstatic 8, 3) := by decide +kernel
theorem d1_15 : decode method_2_code 15 = .ok (.areturn, 1) := by decide +kernel
theorem d1_16 : decode method_2_code 16 = .ok (.iload_n 1, 1) := by decide +kernel
theorem d1_17 : decode method_2_code 17 = .ok (.iconst 1, 1) := by decide +kernel
theorem d1_18 : decode method_2_code 18 = .ok (.if_icmp .ne 7, 3) := by decide +kernel
theorem d1_21 : decode method_2_code 21 = .ok (.getstatic 14, 3) := by decide +kernel
theorem d1_24 : decode method_2_code 24 = .ok (.areturn, 1) := by decide +kernel
theorem d1_25 : decode method_2_code 25 = .ok (.iload_n 1, 1) := by decide +kernel
theorem d1_26 : decode method_2_code 26 = .ok (.iconst 2, 1) := by decide +kernel
theorem d1_27 : decode method_2_code 27 = .ok (.if_icmp .ne 7, 3) := by decide +kernel
theorem d1_30 : decode method_2_code 30 = .ok (.getstatic 17, 3) := by decide +kernel
theorem d1_33 : decode method_2_code 33 = .ok (.areturn, 1) := by decide +kernel
theorem d1_34 : decode method_2_code 34 = .ok (.iload_n 1, 1) := by decide +kernel
theorem d1_35 : decode method_2_code 35 = .ok (.iconst 3, 1) := by decide +kernel
theorem d1_36 : decode method_2_code 36 = .ok (.if_icmp .ne 7, 3) := by decide +kernel
theorem d1_39 : decode method_2_code 39 = .ok (.getstatic 20, 3) := by decide +kernel
theorem d1_42 : decode method_2_code 42 = .ok (.areturn, 1) := by decide +kernel
theorem d1_43 : decode method_2_code 43 = .ok (.iload_n 1, 1) := by decide +kernel
theorem d1_44 : decode method_2_code 44 = .ok (.iconst 4, 1) := by decide +kernel
theorem d1_45 : decode method_2_code 45 = .ok (.if_icmp .ne 7, 3) := by decide +kernel
theorem d1_48 : decode method_2_code 48 = .ok (.getstatic 23, 3) := by decide +kernel
theorem d1_51 : decode method_2_code 51 = .ok (.areturn, 1) := by decide +kernel
theorem d1_52 : decode method_2_code 52 = .ok (.getstatic 26, 3) := by decide +kernel
theorem d1_55 : decode method_2_code 55 = .ok (.areturn, 1) := by decide +kernel
theorem pn_java_lang_Record : plainName "java/lang/Record" = true := by first | (simp [plainName, overriddenIn]; done) | decide +kernel
theorem d6_0 : decode jdk_30_method_1_code 0 = .ok (.aload_n 0, 1) := by decide +kernel
theorem d6_1 : decode jdk_30_method_1_code 1 = .ok (.invokespecial 1, 3) := by decide +kernel
theorem d6_4 : decode jdk_30_method_1_code 4 = .ok (.return_, 1) := by decide +kernel
theorem pn_java_util_Objects : plainName "java/util/Objects" = true := by first | (simp [plainName, overriddenIn]; done) | decide +kernel
theorem d7_0 : decode jdk_31_method_11_code 0 = .ok (.aload_n 0, 1) := by decide +kernel
theorem d7_1 : decode jdk_31_method_11_code 1 = .ok (.ifnonnull 12, 3) := by decide +kernel
theorem d7_13 : decode jdk_31_method_11_code 13 = .ok (.aload_n 0, 1) := by decide +kernel
theorem d7_14 : decode jdk_31_method_11_code 14 = .ok (.areturn, 1) := by decide +kernel
theorem pn_com_example_grantwell_grantwell_catalog_Privilege : plainName "com/example/grantwell/grantwell/catalog/Privilege" = true := by first | (simp [plainName, overriddenIn]; done) | decide +kernel
theorem d8_0 : decode prog_49_method_4_code 0 = .ok (.aload_n 0, 1) := by decide +kernel
theorem d8_1 : decode prog_49_method_4_code 1 = .ok (.getfield 41, 3) := by decide +kernel
theorem d8_4 : decode prog_49_method_4_code 4 = .ok (.ireturn, 1) := by decide +kernel
theorem pn_com_example_grantwell_grantwell_catalog_Action : plainName "com/example/grantwell/grantwell/catalog/Action" = true := by first | (simp [plainName, overriddenIn]; done) | decide +kernel
theorem d5_0 : decode prog_3_method_1_code 0 = .ok (.aload_n 0, 1) := by decide +kernel
theorem d5_1 : decode prog_3_method_1_code 1 = .ok (.invokespecial 1, 3) := by decide +kernel
theorem pd_ocV : parseMethodDescriptor "()V" = some ⟨[], none⟩ := by decide +kernel
theorem d5_4 : decode prog_3_method_1_code 4 = .ok (.aload_n 1, 1) := by decide +kernel
theorem d5_5 : decode prog_3_method_1_code 5 = .ok (.ldc 7, 2) := by decide +kernel
theorem d5_7 : decode prog_3_method_1_code 7 = .ok (.invokestatic 9, 3) := by decide +kernel
theorem pd_oLjava_lang_Object_Ljava_lang_String_cLjava_lang_Object_ : parseMethodDescriptor "(Ljava/lang/Object;Ljava/lang/String;)Ljava/lang/Object;" = some ⟨[(.object "java/lang/Object"), (.object "java/lang/String")], some (.object "java/lang/Object")⟩ := by decide +kernel
theorem d5_10 : decode prog_3_method_1_code 10 = .ok (.pop, 1) := by decide +kernel
theorem d5_11 : decode prog_3_method_1_code 11 = .ok (.aload_n 2, 1) := by decide +kernel
theorem d5_12 : decode prog_3_method_1_code 12 = .ok (.ifnull 27, 3) := by decide +kernel
theorem d5_39 : decode prog_3_method_1_code 39 = .ok (.aload_n 0, 1) := by decide +kernel
theorem d5_40 : decode prog_3_method_1_code 40 = .ok (.aload_n 1, 1) := by decide +kernel
theorem d5_41 : decode prog_3_method_1_code 41 = .ok (.putfield 36, 3) := by decide +kernel
theorem d5_44 : decode prog_3_method_1_code 44 = .ok (.aload_n 0, 1) := by decide +kernel
theorem d5_45 : decode prog_3_method_1_code 45 = .ok (.aload_n 2, 1) := by decide +kernel
theorem d5_46 : decode prog_3_method_1_code 46 = .ok (.putfield 41, 3) := by decide +kernel
theorem d5_49 : decode prog_3_method_1_code 49 = .ok (.return_, 1) := by decide +kernel
theorem d5_15 : decode prog_3_method_1_code 15 = .ok (.aload_n 1, 1) := by decide +kernel
theorem d5_16 : decode prog_3_method_1_code 16 = .ok (.invokevirtual 15, 3) := by decide +kernel
theorem pd_ocZ : parseMethodDescriptor "()Z" = some ⟨[], some .boolean⟩ := by decide +kernel
theorem d5_19 : decode prog_3_method_1_code 19 = .ok (.ifCond .ne 20, 3) := by decide +kernel
theorem d10_0 : decode prog_3_method_2_code 0 = .ok (.new 37, 3) := by decide +kernel
theorem d10_3 : decode prog_3_method_2_code 3 = .ok (.dup, 1) := by decide +kernel
theorem d10_4 : decode prog_3_method_2_code 4 = .ok (.aload_n 0, 1) := by decide +kernel
theorem d10_5 : decode prog_3_method_2_code 5 = .ok (.aconst_null, 1) := by decide +kernel
theorem d10_6 : decode prog_3_method_2_code 6 = .ok (.invokespecial 45, 3) := by decide +kernel
theorem pd_oLcom_example_grantwell_grantwell_catalog_Privilege_Ljava_lang_String_cV : parseMethodDescriptor "(Lcom/example/grantwell/grantwell/catalog/Privilege;Ljava/lang/String;)V" = some ⟨[(.object "com/example/grantwell/grantwell/catalog/Privilege"), (.object "java/lang/String")], none⟩ := by decide +kernel
theorem d10_9 : decode prog_3_method_2_code 9 = .ok (.areturn, 1) := by decide +kernel
theorem d9_0 : decode prog_3_method_3_code 0 = .ok (.aload_n 0, 1) := by decide +kernel
theorem d9_1 : decode prog_3_method_3_code 1 = .ok (.getfield 41, 3) := by decide +kernel
theorem d9_4 : decode prog_3_method_3_code 4 = .ok (.ifnull 7, 3) := by decide +kernel
theorem d9_11 : decode prog_3_method_3_code 11 = .ok (.iconst 0, 1) := by decide +kernel
theorem d9_12 : decode prog_3_method_3_code 12 = .ok (.ireturn, 1) := by decide +kernel
theorem d9_7 : decode prog_3_method_3_code 7 = .ok (.iconst 1, 1) := by decide +kernel
theorem d9_8 : decode prog_3_method_3_code 8 = .ok (.goto 4, 3) := by decide +kernel
theorem pd_oIcLcom_example_grantwell_grantwell_catalog_Privilege_ : parseMethodDescriptor "(I)Lcom/example/grantwell/grantwell/catalog/Privilege;" = some ⟨[.int], some (.object "com/example/grantwell/grantwell/catalog/Privilege")⟩ := by decide +kernel
theorem pd_oLcom_example_grantwell_grantwell_catalog_Privilege_cLcom_example_grantwell_grantwell_catalog_Action_ : parseMethodDescriptor "(Lcom/example/grantwell/grantwell/catalog/Privilege;)Lcom/example/grantwell/grantwell/catalog/Action;" = some ⟨[(.object "com/example/grantwell/grantwell/catalog/Privilege")], some (.object "com/example/grantwell/grantwell/catalog/Action")⟩ := by decide +kernel
theorem pd_oACcV : parseMethodDescriptor "([C)V" = some ⟨[(.array .char)], none⟩ := by decide +kernel
abbrev EL : List (String × Nat) := [("java/lang/String", 7)]
theorem strW {Z : State} {a0 : Array Value} (hw : ∀ d ∈ tables_1, d.before a0 Z = true) : ∀ a ∈ Bundle.stringAtoms, a.before a0 Z = true := fun d hd => hw d ((by decide +kernel : ∀ d ∈ Bundle.stringAtoms, d ∈ tables_1) d hd)
theorem elW {Z : State} {a0 : Array Value} (hw : ∀ d ∈ tables_1, d.before a0 Z = true) : EW Z a0 EL := (EW.cons (hw _ w_26) (by decide +kernel) EW.nil)
theorem and255 (x : Int32) : ¬ (255 : Int32) < ((Int32.toUInt32 (x &&& (255 : Int32))).toUInt16.toUInt32.toInt32) := by
  have h1 := c_mask x 255 8 (by decide) (by decide)
  have h2 := c_i2c (x &&& 255)
  have h3 : (255 : Int32).toInt = 255 := rfl
  rw [Int32.lt_iff_toInt_lt, h3]
  omega
theorem fldOf {s : State} {args : Array Value} {t : Term} {a : Addr} {C n d : String} {k : Int32} (ev : t.eval args s none [] s = some (.ref a)) (h : (Jvm.Cond.eq (.field t C n d) (.int k)).value args s none s [] = some true) : Fld s s.heap a C n d (.int k) :=
  Fld.start ((fld_at ev).symm.trans (eqv_i (F := .int k) rfl h))
set_option maxRecDepth 65536 in
set_option maxHeartbeats 40000000 in
theorem rmCmpB1 (l : Launch) (Z : State) (a0 : Array Value) (hw : ∀ d ∈ tables_1, d.before a0 Z = true) (n0 : Nat) (h0 : Heap) (O : Old Z n0 h0) (b d : Addr) (kb kd : ClassId) (x1 : Int32) (VB : Arv Z h0 b kb .char (1 : Int32) [(.int x1)] (.int (0 : Int32))) (VD : Arv Z h0 d kd .byte (1 : Int32) [(.int (0 : Int32))] (.int (0 : Int32))) (hp1 : ¬ (255 : Int32) < x1) (nd : n0 ≤ d) (nbd : b ≠ d) :
    ConW FrameEnd l Z [] (⟨"java/lang/StringUTF16", "compress", "([CI[BII)I"⟩ : MethodName) jdk_52_method_21_code 7 (some .int) ({ frames := 0, cells := 0, slots := 0, locals := 0 } : Room) #[(.ref b), (.int (0 : Int32)), (.ref d), (.int (0 : Int32)), (.int (1 : Int32))] h0 (fun v h L => v = some (.int (1 : Int32)) ∧ Fr n0 L ∧ Keep h0 h [d] ∧ Arv Z h d kd .byte (1 : Int32) [(.int ((Int32.toInt8 x1).toInt32))] (.int (0 : Int32))) := by
  refine conOf (plainFor_of_name pn_java_lang_StringUTF16) ?_
  intro p e s m below mth cc s₁ X0 hx hby hml hown hnm hret hlk hZ e0
  have N0 := Fr.nil n0
  have K0 := Keep.refl h0 ([d] : List Addr)
  refine Fin.came (castTop (t := _) (by first | (simp [entryFrame, mkF, argsToLocals, Value.category]; done) | rfl) (Steps.refl _) : Steps p.tables e below (s₁.setTop (entryFrame m #[(.ref b), (.int (0 : Int32)), (.ref d), (.int (0 : Int32)), (.int (1 : Int32))] 7)) (s₁.setTop (mkF m 0 #[.val (.ref b), .val (.int (0 : Int32)), .val (.ref d), .val (.int (0 : Int32)), .val (.int (1 : Int32)), .unset, .unset] []))) ?_
  show Fin _ p e below s _ _ _ s₁ (mkF m 0 #[.val (.ref b), .val (.int (0 : Int32)), .val (.ref d), .val (.int (0 : Int32)), .val (.int (1 : Int32)), .unset, .unset] [])
  refine Fin.go (fun _ k => XS.iconst X0.here hx rfl (hb hby d12_0) k) ?_
  show Fin _ p e below s _ _ _ s₁ (mkF m 1 #[.val (.ref b), .val (.int (0 : Int32)), .val (.ref d), .val (.int (0 : Int32)), .val (.int (1 : Int32)), .unset, .unset] [(.int (0 : Int32))])
  refine Fin.go (fun _ k => XS.istore X0.here hx rfl (hb hby d12_1) rfl (l' := #[.val (.ref b), .val (.int (0 : Int32)), .val (.ref d), .val (.int (0 : Int32)), .val (.int (1 : Int32)), .val (.int (0 : Int32)), .unset]) rfl k) ?_
  show Fin _ p e below s _ _ _ s₁ (mkF m 3 #[.val (.ref b), .val (.int (0 : Int32)), .val (.ref d), .val (.int (0 : Int32)), .val (.int (1 : Int32)), .val (.int (0 : Int32)), .unset] [])
  refine Fin.go (fun _ k => XS.iload X0.here hx rfl (hb hby d12_3) rfl k) ?_
  show Fin _ p e below s _ _ _ s₁ (mkF m 5 #[.val (.ref b), .val (.int (0 : Int32)), .val (.ref d), .val (.int (0 : Int32)), .val (.int (1 : Int32)), .val (.int (0 : Int32)), .unset] [(.int (0 : Int32))])
  refine Fin.go (fun _ k => XS.iload X0.here hx rfl (hb hby d12_5) rfl k) ?_
  show Fin _ p e below s _ _ _ s₁ (mkF m 7 #[.val (.ref b), .val (.int (0 : Int32)), .val (.ref d), .val (.int (0 : Int32)), .val (.int (1 : Int32)), .val (.int (0 : Int32)), .unset] [(.int (1 : Int32)), (.int (0 : Int32))])
  refine Fin.go (fun _ k => XS.icmpNo X0.here hx rfl (hb hby d12_7) rfl (XT.ii_ge_f (by decide)) k) ?_
  show Fin _ p e below s _ _ _ s₁ (mkF m 10 #[.val (.ref b), .val (.int (0 : Int32)), .val (.ref d), .val (.int (0 : Int32)), .val (.int (1 : Int32)), .val (.int (0 : Int32)), .unset] [])
  refine Fin.go (fun _ k => XS.aloadN X0.here hx rfl (hb hby d12_10) rfl rfl k) ?_
  show Fin _ p e below s _ _ _ s₁ (mkF m 11 #[.val (.ref b), .val (.int (0 : Int32)), .val (.ref d), .val (.int (0 : Int32)), .val (.int (1 : Int32)), .val (.int (0 : Int32)), .unset] [(.ref b)])
  refine Fin.go (fun _ k => XS.iloadN X0.here hx rfl (hb hby d12_11) rfl k) ?_
  show Fin _ p e below s _ _ _ s₁ (mkF m 12 #[.val (.ref b), .val (.int (0 : Int32)), .val (.ref d), .val (.int (0 : Int32)), .val (.int (1 : Int32)), .val (.int (0 : Int32)), .unset] [(.int (0 : Int32)), (.ref b)])
  obtain ⟨c11, B11, q11, S11, M11, H11, G11⟩ := id VB
  have i11 := inb_of S11 ⟨(by decide : ¬ ((0 : Int32) < (0 : Int32))), (by decide : (0 : Int32) < (1 : Int32))⟩
  refine Fin.go (fun _ k => X0.caload hx (j := (0 : Int32)) (v := (.int x1)) (by rw [e0]; exact B11.1) (State.isArrayOf_alike hZ.alike B11.2.1) B11.2.2 i11 (Has.at H11 i11 rfl) (g := (mkF m 12 #[.val (.ref b), .val (.int (0 : Int32)), .val (.ref d), .val (.int (0 : Int32)), .val (.int (1 : Int32)), .val (.int (0 : Int32)), .unset] [(.int (0 : Int32)), (.ref b)])) rfl rfl (hb hby d12_12) _ k) ?_
  show Fin _ p e below s _ _ _ s₁ (mkF m 13 #[.val (.ref b), .val (.int (0 : Int32)), .val (.ref d), .val (.int (0 : Int32)), .val (.int (1 : Int32)), .val (.int (0 : Int32)), .unset] [(.int x1)])
  refine Fin.go (fun _ k => XS.istore X0.here hx rfl (hb hby d12_13) rfl (l' := #[.val (.ref b), .val (.int (0 : Int32)), .val (.ref d), .val (.int (0 : Int32)), .val (.int (1 : Int32)), .val (.int (0 : Int32)), .val (.int x1)]) rfl k) ?_
  show Fin _ p e below s _ _ _ s₁ (mkF m 15 #[.val (.ref b), .val (.int (0 : Int32)), .val (.ref d), .val (.int (0 : Int32)), .val (.int (1 : Int32)), .val (.int (0 : Int32)), .val (.int x1)] [])
  refine Fin.go (fun _ k => XS.iload X0.here hx rfl (hb hby d12_15) rfl k) ?_
  show Fin _ p e below s _ _ _ s₁ (mkF m 17 #[.val (.ref b), .val (.int (0 : Int32)), .val (.ref d), .val (.int (0 : Int32)), .val (.int (1 : Int32)), .val (.int (0 : Int32)), .val (.int x1)] [(.int x1)])
  refine Fin.go (fun _ k => XS.sipush X0.here hx rfl (hb hby d12_17) k) ?_
  show Fin _ p e below s _ _ _ s₁ (mkF m 20 #[.val (.ref b), .val (.int (0 : Int32)), .val (.ref d), .val (.int (0 : Int32)), .val (.int (1 : Int32)), .val (.int (0 : Int32)), .val (.int x1)] [(.int (255 : Int32)), (.int x1)])
  refine Fin.go (fun _ k => XS.icmpYes X0.here hx rfl (pc0 := 20) (pc' := 26) rfl (hb hby d12_20) rfl (XT.ii_le_t hp1) (by decide) (by decide) k) ?_
  show Fin _ p e below s _ _ _ s₁ (mkF m 26 #[.val (.ref b), .val (.int (0 : Int32)), .val (.ref d), .val (.int (0 : Int32)), .val (.int (1 : Int32)), .val (.int (0 : Int32)), .val (.int x1)] [])
  refine Fin.go (fun _ k => XS.aloadN X0.here hx rfl (hb hby d12_26) rfl rfl k) ?_
  show Fin _ p e below s _ _ _ s₁ (mkF m 27 #[.val (.ref b), .val (.int (0 : Int32)), .val (.ref d), .val (.int (0 : Int32)), .val (.int (1 : Int32)), .val (.int (0 : Int32)), .val (.int x1)] [(.ref d)])
  refine Fin.go (fun _ k => XS.iloadN X0.here hx rfl (hb hby d12_27) rfl k) ?_
  show Fin _ p e below s _ _ _ s₁ (mkF m 28 #[.val (.ref b), .val (.int (0 : Int32)), .val (.ref d), .val (.int (0 : Int32)), .val (.int (1 : Int32)), .val (.int (0 : Int32)), .val (.int x1)] [(.int (0 : Int32)), (.ref d)])
  refine Fin.go (fun _ k => XS.iload X0.here hx rfl (hb hby d12_28) rfl k) ?_
  show Fin _ p e below s _ _ _ s₁ (mkF m 30 #[.val (.ref b), .val (.int (0 : Int32)), .val (.ref d), .val (.int (0 : Int32)), .val (.int (1 : Int32)), .val (.int (0 : Int32)), .val (.int x1)] [(.int x1), (.int (0 : Int32)), (.ref d)])
  refine Fin.go (fun _ k => XT.i2b X0.here hx rfl (hb hby d12_30) rfl k) ?_
  show Fin _ p e below s _ _ _ s₁ (mkF m 31 #[.val (.ref b), .val (.int (0 : Int32)), .val (.ref d), .val (.int (0 : Int32)), .val (.int (1 : Int32)), .val (.int (0 : Int32)), .val (.int x1)] [(.int ((Int32.toInt8 x1).toInt32)), (.int (0 : Int32)), (.ref d)])
  obtain ⟨c12, B12, q12, S12, M12, H12, G12⟩ := id VD
  obtain ⟨T12, h12, X12, e12, W12, st12⟩ := stB X0 hx hZ e0 B12 (j := (0 : Int32)) (inb_of S12 ⟨(by decide : ¬ ((0 : Int32) < (0 : Int32))), (by decide : (0 : Int32) < (1 : Int32))⟩) (g := (mkF m 31 #[.val (.ref b), .val (.int (0 : Int32)), .val (.ref d), .val (.int (0 : Int32)), .val (.int (1 : Int32)), .val (.int (0 : Int32)), .val (.int x1)] [(.int ((Int32.toInt8 x1).toInt32)), (.int (0 : Int32)), (.ref d)])) rfl rfl (hb hby d12_31)
  refine Fin.go st12 ?_
  have V12 : Arv Z h12 d kd .byte (1 : Int32) [(.int ((Int32.toInt8 x1).toInt32))] (.int (0 : Int32)) := (by have q : Arv Z h12 d kd .byte (1 : Int32) [(.int (nar .byte ((Int32.toInt8 x1).toInt32)))] (.int (0 : Int32)) := (Arv.set B12 q12 S12 M12 H12 G12 (fits_nar_byte _) W12 0 rfl (Nat.le_of_ble_eq_true rfl)); rwa [nar_b8] at q)
  have N12 := Fr.snoc X12 N0 nd
  have O12 := O.wr W12 nd
  have K12 := K0.wr W12 (Or.inl (List.mem_of_getElem? (i := 0) rfl))
  show Fin _ p e below s _ _ _ T12 (mkF m 32 #[.val (.ref b), .val (.int (0 : Int32)), .val (.ref d), .val (.int (0 : Int32)), .val (.int (1 : Int32)), .val (.int (0 : Int32)), .val (.int x1)] [])
  refine Fin.go (fun _ k => XS.iinc X12.here hx rfl (hb hby d12_32) rfl (l' := #[.val (.ref b), .val (.int ((0 : Int32) + (1 : Int32))), .val (.ref d), .val (.int (0 : Int32)), .val (.int (1 : Int32)), .val (.int (0 : Int32)), .val (.int x1)]) rfl k) ?_
  show Fin _ p e below s _ _ _ T12 (mkF m 35 #[.val (.ref b), .val (.int ((0 : Int32) + (1 : Int32))), .val (.ref d), .val (.int (0 : Int32)), .val (.int (1 : Int32)), .val (.int (0 : Int32)), .val (.int x1)] [])
  refine Fin.go (fun _ k => XS.iinc X12.here hx rfl (hb hby d12_35) rfl (l' := #[.val (.ref b), .val (.int ((0 : Int32) + (1 : Int32))), .val (.ref d), .val (.int ((0 : Int32) + (1 : Int32))), .val (.int (1 : Int32)), .val (.int (0 : Int32)), .val (.int x1)]) rfl k) ?_
  show Fin _ p e below s _ _ _ T12 (mkF m 38 #[.val (.ref b), .val (.int ((0 : Int32) + (1 : Int32))), .val (.ref d), .val (.int ((0 : Int32) + (1 : Int32))), .val (.int (1 : Int32)), .val (.int (0 : Int32)), .val (.int x1)] [])
  refine Fin.go (fun _ k => XS.iinc X12.here hx rfl (hb hby d12_38) rfl (l' := #[.val (.ref b), .val (.int ((0 : Int32) + (1 : Int32))), .val (.ref d), .val (.int ((0 : Int32) + (1 : Int32))), .val (.int (1 : Int32)), .val (.int ((0 : Int32) + (1 : Int32))), .val (.int x1)]) rfl k) ?_
  show Fin _ p e below s _ _ _ T12 (mkF m 41 #[.val (.ref b), .val (.int ((0 : Int32) + (1 : Int32))), .val (.ref d), .val (.int ((0 : Int32) + (1 : Int32))), .val (.int (1 : Int32)), .val (.int ((0 : Int32) + (1 : Int32))), .val (.int x1)] [])
  refine Fin.go (fun _ k => XS.goto X12.here hx rfl (pc0 := 41) (pc' := 3) rfl (hb hby d12_41) (by decide) (by decide) k) ?_
  show Fin _ p e below s _ _ _ T12 (mkF m 3 #[.val (.ref b), .val (.int ((0 : Int32) + (1 : Int32))), .val (.ref d), .val (.int ((0 : Int32) + (1 : Int32))), .val (.int (1 : Int32)), .val (.int ((0 : Int32) + (1 : Int32))), .val (.int x1)] [])
  refine Fin.go (fun _ k => XS.iload X12.here hx rfl (hb hby d12_3) rfl k) ?_
  show Fin _ p e below s _ _ _ T12 (mkF m 5 #[.val (.ref b), .val (.int ((0 : Int32) + (1 : Int32))), .val (.ref d), .val (.int ((0 : Int32) + (1 : Int32))), .val (.int (1 : Int32)), .val (.int ((0 : Int32) + (1 : Int32))), .val (.int x1)] [(.int ((0 : Int32) + (1 : Int32)))])
  refine Fin.go (fun _ k => XS.iload X12.here hx rfl (hb hby d12_5) rfl k) ?_
  show Fin _ p e below s _ _ _ T12 (mkF m 7 #[.val (.ref b), .val (.int ((0 : Int32) + (1 : Int32))), .val (.ref d), .val (.int ((0 : Int32) + (1 : Int32))), .val (.int (1 : Int32)), .val (.int ((0 : Int32) + (1 : Int32))), .val (.int x1)] [(.int (1 : Int32)), (.int ((0 : Int32) + (1 : Int32)))])
  refine Fin.go (fun _ k => XS.icmpYes X12.here hx rfl (pc0 := 7) (pc' := 44) rfl (hb hby d12_7) rfl (XT.ii_ge_t (by decide)) (by decide) (by decide) k) ?_
  show Fin _ p e below s _ _ _ T12 (mkF m 44 #[.val (.ref b), .val (.int ((0 : Int32) + (1 : Int32))), .val (.ref d), .val (.int ((0 : Int32) + (1 : Int32))), .val (.int (1 : Int32)), .val (.int ((0 : Int32) + (1 : Int32))), .val (.int x1)] [])
  refine Fin.go (fun _ k => XS.iload X12.here hx rfl (hb hby d12_44) rfl k) ?_
  show Fin _ p e below s _ _ _ T12 (mkF m 46 #[.val (.ref b), .val (.int ((0 : Int32) + (1 : Int32))), .val (.ref d), .val (.int ((0 : Int32) + (1 : Int32))), .val (.int (1 : Int32)), .val (.int ((0 : Int32) + (1 : Int32))), .val (.int x1)] [(.int (1 : Int32))])
  exact Fin.leaveN X12 e12 hlk (v := some (.int (1 : Int32))) (fun h => by rw [hret] at h; cases h) (by decide) (by decide) ⟨rfl, N12, K12, V12⟩ (fun fs hr => retI X12 hx hret (hb hby d12_46) hr)
set_option maxRecDepth 65536 in
set_option maxHeartbeats 40000000 in
theorem rmCmpA1 (l : Launch) (Z : State) (a0 : Array Value) (hw : ∀ d ∈ tables_1, d.before a0 Z = true) (n0 : Nat) (h0 : Heap) (O : Old Z n0 h0) (b : Addr) (kb : ClassId) (x1 : Int32) (VB : Arv Z h0 b kb .char (1 : Int32) [(.int x1)] (.int (0 : Int32))) (hp1 : ¬ (255 : Int32) < x1) :
    ConW FrameEnd l Z [] (⟨"java/lang/StringUTF16", "compress", "([CII)[B"⟩ : MethodName) jdk_52_method_16_code 6 (some (.array .byte)) ({ frames := 1, cells := 1, slots := 1, locals := 18 } : Room) #[(.ref b), (.int (0 : Int32)), (.int (1 : Int32))] h0 (fun v h L => ∃ d kd, v = some (.ref d) ∧ Fr n0 L ∧ Keep h0 h [] ∧ Arv Z h d kd .byte (1 : Int32) [(.int ((Int32.toInt8 x1).toInt32))] (.int (0 : Int32)) ∧ h0.size ≤ d) := by
  refine conOf (plainFor_of_name pn_java_lang_StringUTF16) ?_
  intro p e s m below mth cc s₁ X0 hx hby hml hown hnm hret hlk hZ e0
  have N0 := Fr.nil n0
  have K0 := Keep.refl h0 ([] : List Addr)
  refine Fin.came (castTop (t := _) (by first | (simp [entryFrame, mkF, argsToLocals, Value.category]; done) | rfl) (Steps.refl _) : Steps p.tables e below (s₁.setTop (entryFrame m #[(.ref b), (.int (0 : Int32)), (.int (1 : Int32))] 6)) (s₁.setTop (mkF m 0 #[.val (.ref b), .val (.int (0 : Int32)), .val (.int (1 : Int32)), .unset, .unset, .unset] []))) ?_
  show Fin _ p e below s _ _ _ s₁ (mkF m 0 #[.val (.ref b), .val (.int (0 : Int32)), .val (.int (1 : Int32)), .unset, .unset, .unset] [])
  refine Fin.go (fun _ k => XS.iloadN X0.here hx rfl (hb hby d11_0) rfl k) ?_
  show Fin _ p e below s _ _ _ s₁ (mkF m 1 #[.val (.ref b), .val (.int (0 : Int32)), .val (.int (1 : Int32)), .unset, .unset, .unset] [(.int (1 : Int32))])
  obtain ⟨T11, h11, k11, X11, e11, E11, A11, st11⟩ := newP X0 hx hZ (aty := .byte) (hw _ w_27) e0 (g := (mkF m 1 #[.val (.ref b), .val (.int (0 : Int32)), .val (.int (1 : Int32)), .unset, .unset, .unset] [(.int (1 : Int32))])) rfl (hb hby d11_1) rfl (by decide : ¬ ((1 : Int32) < (0 : Int32))) (cap := 1) (by decide) (by decide) (by decide) (by decide)
  obtain ⟨a11, g11⟩ : ∃ z, z = h0.size := ⟨_, rfl⟩
  rw [← g11] at A11 st11
  refine Fin.go st11 ?_
  have O11 := O.ext E11
  have K11 := K0.ext E11
  have n11 : n0 ≤ a11 := by have := O.2.1; have := O.1; omega
  have z11 : h0.size ≤ a11 := by have := K0.1; omega
  have V11 : Arv Z h11 a11 k11 .byte (1 : Int32) [(.int (0 : Int32))] (.int (0 : Int32)) := (Arv.new A11 (by decide)).pad (pad_rep [] (.int (0 : Int32)) 1)
  show Fin _ p e below s _ _ _ T11 (mkF m 3 #[.val (.ref b), .val (.int (0 : Int32)), .val (.int (1 : Int32)), .unset, .unset, .unset] [(.ref a11)])
  refine Fin.go (fun _ k => XS.astoreN X11.here hx rfl (hb hby d11_3) rfl rfl (l' := #[.val (.ref b), .val (.int (0 : Int32)), .val (.int (1 : Int32)), .val (.ref a11), .unset, .unset]) rfl k) ?_
  show Fin _ p e below s _ _ _ T11 (mkF m 4 #[.val (.ref b), .val (.int (0 : Int32)), .val (.int (1 : Int32)), .val (.ref a11), .unset, .unset] [])
  refine Fin.go (fun _ k => XS.aloadN X11.here hx rfl (hb hby d11_4) rfl rfl k) ?_
  show Fin _ p e below s _ _ _ T11 (mkF m 5 #[.val (.ref b), .val (.int (0 : Int32)), .val (.int (1 : Int32)), .val (.ref a11), .unset, .unset] [(.ref b)])
  refine Fin.go (fun _ k => XS.iloadN X11.here hx rfl (hb hby d11_5) rfl k) ?_
  show Fin _ p e below s _ _ _ T11 (mkF m 6 #[.val (.ref b), .val (.int (0 : Int32)), .val (.int (1 : Int32)), .val (.ref a11), .unset, .unset] [(.int (0 : Int32)), (.ref b)])
  refine Fin.go (fun _ k => XS.aloadN X11.here hx rfl (hb hby d11_6) rfl rfl k) ?_
  show Fin _ p e below s _ _ _ T11 (mkF m 7 #[.val (.ref b), .val (.int (0 : Int32)), .val (.int (1 : Int32)), .val (.ref a11), .unset, .unset] [(.ref a11), (.int (0 : Int32)), (.ref b)])
  refine Fin.go (fun _ k => XS.iconst X11.here hx rfl (hb hby d11_7) k) ?_
  show Fin _ p e below s _ _ _ T11 (mkF m 8 #[.val (.ref b), .val (.int (0 : Int32)), .val (.int (1 : Int32)), .val (.ref a11), .unset, .unset] [(.int (0 : Int32)), (.ref a11), (.int (0 : Int32)), (.ref b)])
  refine Fin.go (fun _ k => XS.iloadN X11.here hx rfl (hb hby d11_8) rfl k) ?_
  show Fin _ p e below s _ _ _ T11 (mkF m 9 #[.val (.ref b), .val (.int (0 : Int32)), .val (.int (1 : Int32)), .val (.ref a11), .unset, .unset] [(.int (1 : Int32)), (.int (0 : Int32)), (.ref a11), (.int (0 : Int32)), (.ref b)])
  obtain ⟨v12, T12, L12, X12, q12, st12⟩ := callSt X11 hx hZ (y := (⟨"java/lang/StringUTF16", "compress", "([CI[BII)I"⟩ : MethodName)) hown (hw _ w_81) (hw _ w_82) (hw _ w_79) (hw _ w_83) (by decide) (W := 0) (rmCmpB1 l Z a0 hw n0 h11 O11 b a11 kb k11 x1 (VB.ext E11) V11 hp1 n11 (Nat.ne_of_lt (Nat.lt_of_lt_of_eq VB.lt g11.symm))) e11 (by decide) (by decide) (by decide) (by decide) (g := (mkF m 9 #[.val (.ref b), .val (.int (0 : Int32)), .val (.int (1 : Int32)), .val (.ref a11), .unset, .unset] [(.int (1 : Int32)), (.int (0 : Int32)), (.ref a11), (.int (0 : Int32)), (.ref b)])) rfl (by rw [hml]; rfl) (argsL := [(.ref b), (.int (0 : Int32)), (.ref a11), (.int (0 : Int32)), (.int (1 : Int32))]) (rest := []) (lenOf pd_oACIABIIcI rfl) rfl (by show 2 * 0 + _ ≤ _; exact Nat.le_of_eq rfl) (hb hby d11_9)
  obtain ⟨rfl, Nq12, Kq12, V12⟩ := q12
  have N12 := Fr.app N0 Nq12
  have O12 := O11.keep Kq12 (allS n11 all0)
  have K12 := K11.trans Kq12 (allS (Or.inr z11) all0)
  refine Fin.go st12 ?_
  have V12_b := ((VB.ext E11).keep Kq12 (ninS (Nat.ne_of_lt (Nat.lt_of_lt_of_eq VB.lt g11.symm)) nin0))
  show Fin _ p e below s _ _ _ T12 (mkF m 12 #[.val (.ref b), .val (.int (0 : Int32)), .val (.int (1 : Int32)), .val (.ref a11), .unset, .unset] [(.int (1 : Int32))])
  refine Fin.go (fun _ k => XS.istore X12.here hx rfl (hb hby d11_12) rfl (l' := #[.val (.ref b), .val (.int (0 : Int32)), .val (.int (1 : Int32)), .val (.ref a11), .val (.int (1 : Int32)), .unset]) rfl k) ?_
  show Fin _ p e below s _ _ _ T12 (mkF m 14 #[.val (.ref b), .val (.int (0 : Int32)), .val (.int (1 : Int32)), .val (.ref a11), .val (.int (1 : Int32)), .unset] [])
  refine Fin.go (fun _ k => XS.iload X12.here hx rfl (hb hby d11_14) rfl k) ?_
  show Fin _ p e below s _ _ _ T12 (mkF m 16 #[.val (.ref b), .val (.int (0 : Int32)), .val (.int (1 : Int32)), .val (.ref a11), .val (.int (1 : Int32)), .unset] [(.int (1 : Int32))])
  refine Fin.go (fun _ k => XS.iloadN X12.here hx rfl (hb hby d11_16) rfl k) ?_
  show Fin _ p e below s _ _ _ T12 (mkF m 17 #[.val (.ref b), .val (.int (0 : Int32)), .val (.int (1 : Int32)), .val (.ref a11), .val (.int (1 : Int32)), .unset] [(.int (1 : Int32)), (.int (1 : Int32))])
  refine Fin.go (fun _ k => XS.icmpYes X12.here hx rfl (pc0 := 17) (pc' := 57) rfl (hb hby d11_17) rfl (XT.ii_eq_t (by decide)) (by decide) (by decide) k) ?_
  show Fin _ p e below s _ _ _ T12 (mkF m 57 #[.val (.ref b), .val (.int (0 : Int32)), .val (.int (1 : Int32)), .val (.ref a11), .val (.int (1 : Int32)), .unset] [])
  refine Fin.go (fun _ k => XS.aloadN X12.here hx rfl (hb hby d11_57) rfl rfl k) ?_
  show Fin _ p e below s _ _ _ T12 (mkF m 58 #[.val (.ref b), .val (.int (0 : Int32)), .val (.int (1 : Int32)), .val (.ref a11), .val (.int (1 : Int32)), .unset] [(.ref a11)])
  exact Fin.leaveN X12 (rfl : T12.heap = T12.heap) hlk (v := some (.ref a11)) (fun h => by rw [hret] at h; cases h) (by decide) (by decide) ⟨a11, k11, rfl, N12, K12, V12, z11⟩ (fun fs hr => retOut X12 hx hret rfl (Or.inr (Or.inr (Or.inr (Or.inr ⟨rfl, rfl, rfl⟩)))) (hb hby d11_58) hr)
set_option maxRecDepth 65536 in
set_option maxHeartbeats 40000000 in
theorem rmCod1 (l : Launch) (Z : State) (a0 : Array Value) (hw : ∀ d ∈ tables_1, d.before a0 Z = true) (n0 : Nat) (h0 : Heap) (O : Old Z n0 h0) (d : Addr) (kd : ClassId) (x1 : Int32) (VD : Arv Z h0 d kd .byte (1 : Int32) [(.int x1)] (.int (0 : Int32))) :
    ConW FrameEnd l Z [] (⟨"java/lang/StringUTF16", "coderFromArrayLen", "([BI)B"⟩ : MethodName) jdk_52_method_15_code 2 (some .byte) ({ frames := 0, cells := 0, slots := 0, locals := 0 } : Room) #[(.ref d), (.int (1 : Int32))] h0 (Pure h0 (some (.int (0 : Int32)))) := by
  refine conOf (plainFor_of_name pn_java_lang_StringUTF16) ?_
  intro p e s m below mth cc s₁ X0 hx hby hml hown hnm hret hlk hZ e0
  have N0 := Fr.nil n0
  refine Fin.came (castTop (t := _) (by first | (simp [entryFrame, mkF, argsToLocals, Value.category]; done) | rfl) (Steps.refl _) : Steps p.tables e below (s₁.setTop (entryFrame m #[(.ref d), (.int (1 : Int32))] 2)) (s₁.setTop (mkF m 0 #[.val (.ref d), .val (.int (1 : Int32))] []))) ?_
  show Fin _ p e below s _ _ _ s₁ (mkF m 0 #[.val (.ref d), .val (.int (1 : Int32))] [])
  refine Fin.go (fun _ k => XS.iloadN X0.here hx rfl (hb hby d13_0) rfl k) ?_
  show Fin _ p e below s _ _ _ s₁ (mkF m 1 #[.val (.ref d), .val (.int (1 : Int32))] [(.int (1 : Int32))])
  refine Fin.go (fun _ k => XS.aloadN X0.here hx rfl (hb hby d13_1) rfl rfl k) ?_
  show Fin _ p e below s _ _ _ s₁ (mkF m 2 #[.val (.ref d), .val (.int (1 : Int32))] [(.ref d), (.int (1 : Int32))])
  obtain ⟨c11, B11, q11, S11, M11, H11, G11⟩ := id VD
  refine Fin.go (fun _ k => X0.arraylength hx (by rw [e0]; exact B11.1) (State.isArrayOf_alike hZ.alike B11.2.1) (g := (mkF m 2 #[.val (.ref d), .val (.int (1 : Int32))] [(.ref d), (.int (1 : Int32))])) rfl rfl (hb hby d13_2) _ k) ?_
  rw [len_of S11 M11]
  show Fin _ p e below s _ _ _ s₁ (mkF m 3 #[.val (.ref d), .val (.int (1 : Int32))] [(.int (1 : Int32)), (.int (1 : Int32))])
  refine Fin.go (fun _ k => XS.isub X0.here hx rfl (hb hby d13_3) rfl k) ?_
  show Fin _ p e below s _ _ _ s₁ (mkF m 4 #[.val (.ref d), .val (.int (1 : Int32))] [(.int ((1 : Int32) - (1 : Int32)))])
  refine Fin.go (fun _ k => XS.bipush X0.here hx rfl (hb hby d13_4) k) ?_
  show Fin _ p e below s _ _ _ s₁ (mkF m 6 #[.val (.ref d), .val (.int (1 : Int32))] [(.int (31 : Int32)), (.int ((1 : Int32) - (1 : Int32)))])
  refine Fin.go (fun _ k => XT.iushr X0.here hx rfl (hb hby d13_6) rfl k) ?_
  show Fin _ p e below s _ _ _ s₁ (mkF m 7 #[.val (.ref d), .val (.int (1 : Int32))] [(.int (XT.ushr ((1 : Int32) - (1 : Int32)) (31 : Int32)))])
  refine Fin.go (fun _ k => XT.i2b X0.here hx rfl (hb hby d13_7) rfl k) ?_
  show Fin _ p e below s _ _ _ s₁ (mkF m 8 #[.val (.ref d), .val (.int (1 : Int32))] [(.int ((Int32.toInt8 (XT.ushr ((1 : Int32) - (1 : Int32)) (31 : Int32))).toInt32))])
  exact Fin.leaveN X0 e0 hlk (v := some (.int (nar .byte ((Int32.toInt8 (XT.ushr ((1 : Int32) - (1 : Int32)) (31 : Int32))).toInt32)))) (fun h => by rw [hret] at h; cases h) (by decide) (by decide) ⟨by decide +kernel, rfl, rfl⟩ (fun fs hr => retN X0 hx (t := .byte) hret (by simp) (hb hby d13_8) hr)
set_option maxRecDepth 65536 in
set_option maxHeartbeats 40000000 in
theorem rmStrV1 (l : Launch) (Z : State) (a0 : Array Value) (hw : ∀ d ∈ tables_1, d.before a0 Z = true) (n0 : Nat) (h0 : Heap) (O : Old Z n0 h0) (a b : Addr) (kb : ClassId) (x1 : Int32) (cs : Int32) (S_cs : Sta Z Z.heap "java/lang/String" "COMPACT_STRINGS" "Z" (.int cs)) (hcs : ¬ cs = 0) (VB : Arv Z h0 b kb .char (1 : Int32) [(.int x1)] (.int (0 : Int32))) (A : Exa Z h0 a "java/lang/String") (F1 : Fld Z h0 a "java/lang/String" "coder" "B" (.int (0 : Int32))) (F2 : Fld Z h0 a "java/lang/String" "value" "[B" .null) (hp1 : ¬ (255 : Int32) < x1) (na : n0 ≤ a) (nba : b ≠ a) :
    ConW FrameEnd l Z [] (⟨"java/lang/String", "<init>", "([CIILjava/lang/Void;)V"⟩ : MethodName) jdk_42_method_149_code 6 none ({ frames := 2, cells := 1, slots := 1, locals := 35 } : Room) #[(.ref a), (.ref b), (.int (0 : Int32)), (.int (1 : Int32)), .null] h0 (fun v h L => v = none ∧ Fr n0 L ∧ Keep h0 h [a] ∧ Exa Z h a "java/lang/String" ∧ Fld Z h a "java/lang/String" "coder" "B" (.int (0 : Int32)) ∧ ∃ d kd, Fld Z h a "java/lang/String" "value" "[B" (.ref d) ∧ Arv Z h d kd .byte (1 : Int32) [(.int ((Int32.toInt8 x1).toInt32))] (.int (0 : Int32)) ∧ h0.size ≤ d) := by
  refine conOf (plainFor_of_name pn_java_lang_String) ?_
  intro p e s m below mth cc s₁ X0 hx hby hml hown hnm hret hlk hZ e0
  have N0 := Fr.nil n0
  have K0 := Keep.refl h0 ([a] : List Addr)
  refine Fin.came (castTop (t := _) (by first | (simp [entryFrame, mkF, argsToLocals, Value.category]; done) | rfl) (Steps.refl _) : Steps p.tables e below (s₁.setTop (entryFrame m #[(.ref a), (.ref b), (.int (0 : Int32)), (.int (1 : Int32)), .null] 6)) (s₁.setTop (mkF m 0 #[.val (.ref a), .val (.ref b), .val (.int (0 : Int32)), .val (.int (1 : Int32)), .val .null, .unset] []))) ?_
  show Fin _ p e below s _ _ _ s₁ (mkF m 0 #[.val (.ref a), .val (.ref b), .val (.int (0 : Int32)), .val (.int (1 : Int32)), .val .null, .unset] [])
  refine Fin.go (fun _ k => XS.aloadN X0.here hx rfl (hb hby d3_0) rfl rfl k) ?_
  show Fin _ p e below s _ _ _ s₁ (mkF m 1 #[.val (.ref a), .val (.ref b), .val (.int (0 : Int32)), .val (.int (1 : Int32)), .val .null, .unset] [(.ref a)])
  obtain ⟨T11, X11, e11, st11⟩ := initO X0 hx hZ hown (hw _ w_23) (hw _ w_24) (hw _ w_25) e0 (g := (mkF m 1 #[.val (.ref a), .val (.ref b), .val (.int (0 : Int32)), .val (.int (1 : Int32)), .val .null, .unset] [(.ref a)])) rfl (by rw [hml]; rfl) rfl (hb hby d3_1) (by decide) (W := 0) (by show 2 * 0 + _ ≤ _; exact Nat.le_of_eq rfl) (by decide)
  refine Fin.go st11 ?_
  show Fin _ p e below s _ _ _ T11 (mkF m 4 #[.val (.ref a), .val (.ref b), .val (.int (0 : Int32)), .val (.int (1 : Int32)), .val .null, .unset] [])
  refine Fin.go (fun _ k => XS.iloadN X11.here hx rfl (hb hby d3_4) rfl k) ?_
  show Fin _ p e below s _ _ _ T11 (mkF m 5 #[.val (.ref a), .val (.ref b), .val (.int (0 : Int32)), .val (.int (1 : Int32)), .val .null, .unset] [(.int (1 : Int32))])
  refine Fin.go (fun _ k => XS.ifYes X11.here hx rfl (pc0 := 5) (pc' := 27) rfl (hb hby d3_5) rfl (XT.i0_ne_t (by decide)) (by decide) (by decide) k) ?_
  show Fin _ p e below s _ _ _ T11 (mkF m 27 #[.val (.ref a), .val (.ref b), .val (.int (0 : Int32)), .val (.int (1 : Int32)), .val .null, .unset] [])
  obtain ⟨T12, X12, e12, st12⟩ := getS2 X11 hx hZ hown (host := "") (Or.inl (hw _ w_76)) Via.refl e11 (S_cs.ext O.2) (g := (mkF m 27 #[.val (.ref a), .val (.ref b), .val (.int (0 : Int32)), .val (.int (1 : Int32)), .val .null, .unset] [])) rfl (hb hby d3_27)
  refine Fin.go st12 ?_
  show Fin _ p e below s _ _ _ T12 (mkF m 30 #[.val (.ref a), .val (.ref b), .val (.int (0 : Int32)), .val (.int (1 : Int32)), .val .null, .unset] [(.int cs)])
  refine Fin.go (fun _ k => XS.ifNo X12.here hx rfl (hb hby d3_30) rfl (XT.i0_eq_f hcs) k) ?_
  show Fin _ p e below s _ _ _ T12 (mkF m 33 #[.val (.ref a), .val (.ref b), .val (.int (0 : Int32)), .val (.int (1 : Int32)), .val .null, .unset] [])
  refine Fin.go (fun _ k => XS.aloadN X12.here hx rfl (hb hby d3_33) rfl rfl k) ?_
  show Fin _ p e below s _ _ _ T12 (mkF m 34 #[.val (.ref a), .val (.ref b), .val (.int (0 : Int32)), .val (.int (1 : Int32)), .val .null, .unset] [(.ref b)])
  refine Fin.go (fun _ k => XS.iloadN X12.here hx rfl (hb hby d3_34) rfl k) ?_
  show Fin _ p e below s _ _ _ T12 (mkF m 35 #[.val (.ref a), .val (.ref b), .val (.int (0 : Int32)), .val (.int (1 : Int32)), .val .null, .unset] [(.int (0 : Int32)), (.ref b)])
  refine Fin.go (fun _ k => XS.iloadN X12.here hx rfl (hb hby d3_35) rfl k) ?_
  show Fin _ p e below s _ _ _ T12 (mkF m 36 #[.val (.ref a), .val (.ref b), .val (.int (0 : Int32)), .val (.int (1 : Int32)), .val .null, .unset] [(.int (1 : Int32)), (.int (0 : Int32)), (.ref b)])
  obtain ⟨v13, T13, L13, X13, q13, st13⟩ := callSt X12 hx hZ (y := (⟨"java/lang/StringUTF16", "compress", "([CII)[B"⟩ : MethodName)) hown (hw _ w_77) (hw _ w_78) (hw _ w_79) (hw _ w_80) (by decide) (W := 0) (rmCmpA1 l Z a0 hw n0 h0 O b kb x1 VB hp1) e12 (by decide) (by decide) (by decide) (by decide) (g := (mkF m 36 #[.val (.ref a), .val (.ref b), .val (.int (0 : Int32)), .val (.int (1 : Int32)), .val .null, .unset] [(.int (1 : Int32)), (.int (0 : Int32)), (.ref b)])) rfl (by rw [hml]; rfl) (argsL := [(.ref b), (.int (0 : Int32)), (.int (1 : Int32))]) (rest := []) (lenOf pd_oACIIcAB rfl) rfl (by show 2 * 0 + _ ≤ _; exact Nat.le_of_eq rfl) (hb hby d3_36)
  obtain ⟨d13, kd13, rfl, Nq13, Kq13, V13, zd13⟩ := q13
  have N13 := Fr.app N0 Nq13
  have O13 := O.keep Kq13 all0
  have K13 := K0.trans Kq13 all0
  refine Fin.go st13 ?_
  show Fin _ p e below s _ _ _ T13 (mkF m 39 #[.val (.ref a), .val (.ref b), .val (.int (0 : Int32)), .val (.int (1 : Int32)), .val .null, .unset] [(.ref d13)])
  have nzd13 : n0 ≤ d13 := Nat.le_trans (by have := O.1; have := O.2.1; omega) zd13
  have hzd13 : h0.size ≤ d13 := Nat.le_trans K0.1 zd13
  refine Fin.go (fun _ k => XS.astore X13.here hx rfl (hb hby d3_39) rfl rfl (l' := #[.val (.ref a), .val (.ref b), .val (.int (0 : Int32)), .val (.int (1 : Int32)), .val .null, .val (.ref d13)]) rfl k) ?_
  show Fin _ p e below s _ _ _ T13 (mkF m 41 #[.val (.ref a), .val (.ref b), .val (.int (0 : Int32)), .val (.int (1 : Int32)), .val .null, .val (.ref d13)] [])
  refine Fin.go (fun _ k => XS.aloadN X13.here hx rfl (hb hby d3_41) rfl rfl k) ?_
  show Fin _ p e below s _ _ _ T13 (mkF m 42 #[.val (.ref a), .val (.ref b), .val (.int (0 : Int32)), .val (.int (1 : Int32)), .val .null, .val (.ref d13)] [(.ref a)])
  refine Fin.go (fun _ k => XS.aload X13.here hx rfl (hb hby d3_42) rfl rfl k) ?_
  show Fin _ p e below s _ _ _ T13 (mkF m 44 #[.val (.ref a), .val (.ref b), .val (.int (0 : Int32)), .val (.int (1 : Int32)), .val .null, .val (.ref d13)] [(.ref d13), (.ref a)])
  refine Fin.go (fun _ k => XS.iloadN X13.here hx rfl (hb hby d3_44) rfl k) ?_
  show Fin _ p e below s _ _ _ T13 (mkF m 45 #[.val (.ref a), .val (.ref b), .val (.int (0 : Int32)), .val (.int (1 : Int32)), .val .null, .val (.ref d13)] [(.int (1 : Int32)), (.ref d13), (.ref a)])
  obtain ⟨v14, T14, L14, X14, q14, st14⟩ := callSt X13 hx hZ (y := (⟨"java/lang/StringUTF16", "coderFromArrayLen", "([BI)B"⟩ : MethodName)) hown (hw _ w_84) (hw _ w_85) (hw _ w_79) (hw _ w_86) (by decide) (W := 1) (rmCod1 l Z a0 hw n0 T13.heap O13 d13 kd13 ((Int32.toInt8 x1).toInt32) V13) (rfl : T13.heap = T13.heap) (by decide) (by decide) (by decide) (by decide) (g := (mkF m 45 #[.val (.ref a), .val (.ref b), .val (.int (0 : Int32)), .val (.int (1 : Int32)), .val .null, .val (.ref d13)] [(.int (1 : Int32)), (.ref d13), (.ref a)])) rfl (by rw [hml]; rfl) (argsL := [(.ref d13), (.int (1 : Int32))]) (rest := [(.ref a)]) (lenOf pd_oABIcB rfl) rfl (by show 2 * 0 + _ ≤ _; exact Nat.le_of_eq rfl) (hb hby d3_45)
  obtain ⟨rfl, e14, rfl⟩ := q14
  have N14 := Fr.app N13 (Fr.nil n0)
  refine Fin.go st14 ?_
  show Fin _ p e below s _ _ _ T14 (mkF m 48 #[.val (.ref a), .val (.ref b), .val (.int (0 : Int32)), .val (.int (1 : Int32)), .val .null, .val (.ref d13)] [(.int (0 : Int32)), (.ref a)])
  obtain ⟨T15, h15, X15, e15, W15, st15⟩ := putF X14 hx hZ hown (host := "") (Or.inl (hw _ w_33)) Via.refl e14 (F1.keep Kq13 nin0) (A.keep Kq13) (Or.inr ⟨(hw _ w_29), rfl, hnm⟩) (hw _ w_13) (ty := .byte) (by decide) rfl rfl (g := (mkF m 48 #[.val (.ref a), .val (.ref b), .val (.int (0 : Int32)), .val (.int (1 : Int32)), .val .null, .val (.ref d13)] [(.int (0 : Int32)), (.ref a)])) rfl rfl (hb hby d3_48)
  refine Fin.go st15 ?_
  have N15 := Fr.snoc X15 N14 na
  have O15 := O13.wr W15 na
  have K15 := K13.wr W15 (Or.inl (List.mem_of_getElem? (i := 0) rfl))
  have F15_a_value := ((F2.keep Kq13 nin0).other W15 (Or.inr (slot_ne (Or.inr (hw _ w_28)) (Or.inr (hw _ w_29)) (by decide) (t := (.array .byte)) (t' := .byte) (by decide) (by decide))))
  have V15_d13 := (V13.other W15 (Ne.symm (Nat.ne_of_lt (Nat.lt_of_lt_of_le F2.lt zd13))))
  show Fin _ p e below s _ _ _ T15 (mkF m 51 #[.val (.ref a), .val (.ref b), .val (.int (0 : Int32)), .val (.int (1 : Int32)), .val .null, .val (.ref d13)] [])
  refine Fin.go (fun _ k => XS.aloadN X15.here hx rfl (hb hby d3_51) rfl rfl k) ?_
  show Fin _ p e below s _ _ _ T15 (mkF m 52 #[.val (.ref a), .val (.ref b), .val (.int (0 : Int32)), .val (.int (1 : Int32)), .val .null, .val (.ref d13)] [(.ref a)])
  refine Fin.go (fun _ k => XS.aload X15.here hx rfl (hb hby d3_52) rfl rfl k) ?_
  show Fin _ p e below s _ _ _ T15 (mkF m 54 #[.val (.ref a), .val (.ref b), .val (.int (0 : Int32)), .val (.int (1 : Int32)), .val .null, .val (.ref d13)] [(.ref d13), (.ref a)])
  obtain ⟨T16, h16, X16, e16, W16, st16⟩ := putF X15 hx hZ hown (host := "") (Or.inl (hw _ w_32)) Via.refl e15 F15_a_value ((A.keep Kq13).wr W15) (Or.inr ⟨(hw _ w_28), rfl, hnm⟩) (hw _ w_13) (ty := (.array .byte)) (by decide) rfl rfl (g := (mkF m 54 #[.val (.ref a), .val (.ref b), .val (.int (0 : Int32)), .val (.int (1 : Int32)), .val .null, .val (.ref d13)] [(.ref d13), (.ref a)])) rfl rfl (hb hby d3_54)
  refine Fin.go st16 ?_
  have N16 := Fr.snoc X16 N15 na
  have O16 := O15.wr W16 na
  have K16 := K15.wr W16 (Or.inl (List.mem_of_getElem? (i := 0) rfl))
  have F16_a_coder := (((F1.keep Kq13 nin0).same W15).other W16 (Or.inr (slot_ne (Or.inr (hw _ w_29)) (Or.inr (hw _ w_28)) (by decide) (t := .byte) (t' := (.array .byte)) (by decide) (by decide))))
  have V16_d13 := (V15_d13.other W16 (Ne.symm (Nat.ne_of_lt (Nat.lt_of_lt_of_le F2.lt zd13))))
  show Fin _ p e below s _ _ _ T16 (mkF m 57 #[.val (.ref a), .val (.ref b), .val (.int (0 : Int32)), .val (.int (1 : Int32)), .val .null, .val (.ref d13)] [])
  exact Fin.leaveN X16 e16 hlk (v := none) (fun _ => rfl) (by decide) (by decide) ⟨rfl, N16, K16, (((A.keep Kq13).wr W15).wr W16), F16_a_coder, d13, kd13, (F15_a_value.same W16), V16_d13, hzd13⟩ (fun fs hr => X16.returnOut hx hret (hb hby d3_57) hr)
set_option maxRecDepth 65536 in
set_option maxHeartbeats 40000000 in
theorem rmStr1 (l : Launch) (Z : State) (a0 : Array Value) (hw : ∀ d ∈ tables_1, d.before a0 Z = true) (n0 : Nat) (h0 : Heap) (O : Old Z n0 h0) (a b : Addr) (kb : ClassId) (x1 : Int32) (cs : Int32) (S_cs : Sta Z Z.heap "java/lang/String" "COMPACT_STRINGS" "Z" (.int cs)) (hcs : ¬ cs = 0) (VB : Arv Z h0 b kb .char (1 : Int32) [(.int x1)] (.int (0 : Int32))) (A : Exa Z h0 a "java/lang/String") (F1 : Fld Z h0 a "java/lang/String" "coder" "B" (.int (0 : Int32))) (F2 : Fld Z h0 a "java/lang/String" "value" "[B" .null) (hp1 : ¬ (255 : Int32) < x1) (na : n0 ≤ a) (nba : b ≠ a) :
    ConW FrameEnd l Z [] (⟨"java/lang/String", "<init>", "([C)V"⟩ : MethodName) jdk_42_method_3_code 2 none ({ frames := 3, cells := 1, slots := 1, locals := 52 } : Room) #[(.ref a), (.ref b)] h0 (fun v h L => v = none ∧ Fr n0 L ∧ Keep h0 h [a] ∧ Exa Z h a "java/lang/String" ∧ Fld Z h a "java/lang/String" "coder" "B" (.int (0 : Int32)) ∧ ∃ d kd, Fld Z h a "java/lang/String" "value" "[B" (.ref d) ∧ Arv Z h d kd .byte (1 : Int32) [(.int ((Int32.toInt8 x1).toInt32))] (.int (0 : Int32)) ∧ h0.size ≤ d) := by
  refine conOf (plainFor_of_name pn_java_lang_String) ?_
  intro p e s m below mth cc s₁ X0 hx hby hml hown hnm hret hlk hZ e0
  have N0 := Fr.nil n0
  have K0 := Keep.refl h0 ([a] : List Addr)
  refine Fin.came (castTop (t := _) (by first | (simp [entryFrame, mkF, argsToLocals, Value.category]; done) | rfl) (Steps.refl _) : Steps p.tables e below (s₁.setTop (entryFrame m #[(.ref a), (.ref b)] 2)) (s₁.setTop (mkF m 0 #[.val (.ref a), .val (.ref b)] []))) ?_
  show Fin _ p e below s _ _ _ s₁ (mkF m 0 #[.val (.ref a), .val (.ref b)] [])
  refine Fin.go (fun _ k => XS.aloadN X0.here hx rfl (hb hby d2_0) rfl rfl k) ?_
  show Fin _ p e below s _ _ _ s₁ (mkF m 1 #[.val (.ref a), .val (.ref b)] [(.ref a)])
  refine Fin.go (fun _ k => XS.aloadN X0.here hx rfl (hb hby d2_1) rfl rfl k) ?_
  show Fin _ p e below s _ _ _ s₁ (mkF m 2 #[.val (.ref a), .val (.ref b)] [(.ref b), (.ref a)])
  refine Fin.go (fun _ k => XS.iconst X0.here hx rfl (hb hby d2_2) k) ?_
  show Fin _ p e below s _ _ _ s₁ (mkF m 3 #[.val (.ref a), .val (.ref b)] [(.int (0 : Int32)), (.ref b), (.ref a)])
  refine Fin.go (fun _ k => XS.aloadN X0.here hx rfl (hb hby d2_3) rfl rfl k) ?_
  show Fin _ p e below s _ _ _ s₁ (mkF m 4 #[.val (.ref a), .val (.ref b)] [(.ref b), (.int (0 : Int32)), (.ref b), (.ref a)])
  obtain ⟨c11, B11, q11, S11, M11, H11, G11⟩ := id VB
  refine Fin.go (fun _ k => X0.arraylength hx (by rw [e0]; exact B11.1) (State.isArrayOf_alike hZ.alike B11.2.1) (g := (mkF m 4 #[.val (.ref a), .val (.ref b)] [(.ref b), (.int (0 : Int32)), (.ref b), (.ref a)])) rfl rfl (hb hby d2_4) _ k) ?_
  rw [len_of S11 M11]
  show Fin _ p e below s _ _ _ s₁ (mkF m 5 #[.val (.ref a), .val (.ref b)] [(.int (1 : Int32)), (.int (0 : Int32)), (.ref b), (.ref a)])
  refine Fin.go (fun _ k => XS.aconstNull X0.here hx rfl (hb hby d2_5) k) ?_
  show Fin _ p e below s _ _ _ s₁ (mkF m 6 #[.val (.ref a), .val (.ref b)] [.null, (.int (1 : Int32)), (.int (0 : Int32)), (.ref b), (.ref a)])
  obtain ⟨v12, T12, L12, X12, q12, st12⟩ := callCt X0 hx hZ (y := (⟨"java/lang/String", "<init>", "([CIILjava/lang/Void;)V"⟩ : MethodName)) rfl hown (hw _ w_19) (hw _ w_20) (hw _ w_14) (hw _ w_22) (by decide) (W := 0) (rmStrV1 l Z a0 hw n0 h0 O a b kb x1 cs S_cs hcs VB A F1 F2 hp1 na nba) e0 (by decide) (by decide) (by decide) (by decide) (g := (mkF m 6 #[.val (.ref a), .val (.ref b)] [.null, (.int (1 : Int32)), (.int (0 : Int32)), (.ref b), (.ref a)])) rfl (by rw [hml]; rfl) (a := a) (argsL := [(.ref b), (.int (0 : Int32)), (.int (1 : Int32)), .null]) (rest := []) (lenOf pd_oACIILjava_lang_Void_cV rfl) rfl (by show 2 * 0 + _ ≤ _; exact Nat.le_of_eq rfl) (hb hby d2_6)
  obtain ⟨rfl, Nq12, Kq12, A12, C12, d12, kd12, F12, V12, zd12⟩ := q12
  have N12 := Fr.app N0 Nq12
  have O12 := O.keep Kq12 (allS na all0)
  have K12 := K0.trans Kq12 (allS (Or.inl (List.mem_of_getElem? (i := 0) rfl)) all0)
  refine Fin.go st12 ?_
  show Fin _ p e below s _ _ _ T12 (mkF m 9 #[.val (.ref a), .val (.ref b)] [])
  exact Fin.leaveN X12 (rfl : T12.heap = T12.heap) hlk (v := none) (fun _ => rfl) (by decide) (by decide) ⟨rfl, N12, K12, A12, C12, d12, kd12, F12, V12, zd12⟩ (fun fs hr => X12.returnOut hx hret (hb hby d2_9) hr)
set_option maxRecDepth 65536 in
set_option maxHeartbeats 40000000 in
theorem rmCmpB2 (l : Launch) (Z : State) (a0 : Array Value) (hw : ∀ d ∈ tables_1, d.before a0 Z = true) (n0 : Nat) (h0 : Heap) (O : Old Z n0 h0) (b d : Addr) (kb kd : ClassId) (x1 x2 : Int32) (VB : Arv Z h0 b kb .char (2 : Int32) [(.int x1), (.int x2)] (.int (0 : Int32))) (VD : Arv Z h0 d kd .byte (2 : Int32) [(.int (0 : Int32)), (.int (0 : Int32))] (.int (0 : Int32))) (hp1 : ¬ (255 : Int32) < x1) (hp2 : ¬ (255 : Int32) < x2) (nd : n0 ≤ d) (nbd : b ≠ d) :
    ConW FrameEnd l Z [] (⟨"java/lang/StringUTF16", "compress", "([CI[BII)I"⟩ : MethodName) jdk_52_method_21_code 7 (some .int) ({ frames := 0, cells := 0, slots := 0, locals := 0 } : Room) #[(.ref b), (.int (0 : Int32)), (.ref d), (.int (0 : Int32)), (.int (2 : Int32))] h0 (fun v h L => v = some (.int (2 : Int32)) ∧ Fr n0 L ∧ Keep h0 h [d] ∧ Arv Z h d kd .byte (2 : Int32) [(.int ((Int32.toInt8 x1).toInt32)), (.int ((Int32.toInt8 x2).toInt32))] (.int (0 : Int32))) := by
  refine conOf (plainFor_of_name pn_java_lang_StringUTF16) ?_
  intro p e s m below mth cc s₁ X0 hx hby hml hown hnm hret hlk hZ e0
  have N0 := Fr.nil n0
  have K0 := Keep.refl h0 ([d] : List Addr)
  refine Fin.came (castTop (t := _) (by first | (simp [entryFrame, mkF, argsToLocals, Value.category]; done) | rfl) (Steps.refl _) : Steps p.tables e below (s₁.setTop (entryFrame m #[(.ref b), (.int (0 : Int32)), (.ref d), (.int (0 : Int32)), (.int (2 : Int32))] 7)) (s₁.setTop (mkF m 0 #[.val (.ref b), .val (.int (0 : Int32)), .val (.ref d), .val (.int (0 : Int32)), .val (.int (2 : Int32)), .unset, .unset] []))) ?_
  show Fin _ p e below s _ _ _ s₁ (mkF m 0 #[.val (.ref b), .val (.int (0 : Int32)), .val (.ref d), .val (.int (0 : Int32)), .val (.int (2 : Int32)), .unset, .unset] [])
  refine Fin.go (fun _ k => XS.iconst X0.here hx rfl (hb hby d12_0) k) ?_
  show Fin _ p e below s _ _ _ s₁ (mkF m 1 #[.val (.ref b), .val (.int (0 : Int32)), .val (.ref d), .val (.int (0 : Int32)), .val (.int (2 : Int32)), .unset, .unset] [(.int (0 : Int32))])
  refine Fin.go (fun _ k => XS.istore X0.here hx rfl (hb hby d12_1) rfl (l' := #[.val (.ref b), .val (.int (0 : Int32)), .val (.ref d), .val (.int (0 : Int32)), .val (.int (2 : Int32)), .val (.int (0 : Int32)), .unset]) rfl k) ?_
  show Fin _ p e below s _ _ _ s₁ (mkF m 3 #[.val (.ref b), .val (.int (0 : Int32)), .val (.ref d), .val (.int (0 : Int32)), .val (.int (2 : Int32)), .val (.int (0 : Int32)), .unset] [])
  refine Fin.go (fun _ k => XS.iload X0.here hx rfl (hb hby d12_3) rfl k) ?_
  show Fin _ p e below s _ _ _ s₁ (mkF m 5 #[.val (.ref b), .val (.int (0 : Int32)), .val (.ref d), .val (.int (0 : Int32)), .val (.int (2 : Int32)), .val (.int (0 : Int32)), .unset] [(.int (0 : Int32))])
  refine Fin.go (fun _ k => XS.iload X0.here hx rfl (hb hby d12_5) rfl k) ?_
  show Fin _ p e below s _ _ _ s₁ (mkF m 7 #[.val (.ref b), .val (.int (0 : Int32)), .val (.ref d), .val (.int (0 : Int32)), .val (.int (2 : Int32)), .val (.int (0 : Int32)), .unset] [(.int (2 : Int32)), (.int (0 : Int32))])
  refine Fin.go (fun _ k => XS.icmpNo X0.here hx rfl (hb hby d12_7) rfl (XT.ii_ge_f (by decide)) k) ?_
  show Fin _ p e below s _ _ _ s₁ (mkF m 10 #[.val (.ref b), .val (.int (0 : Int32)), .val (.ref d), .val (.int (0 : Int32)), .val (.int (2 : Int32)), .val (.int (0 : Int32)), .unset] [])
  refine Fin.go (fun _ k => XS.aloadN X0.here hx rfl (hb hby d12_10) rfl rfl k) ?_
  show Fin _ p e below s _ _ _ s₁ (mkF m 11 #[.val (.ref b), .val (.int (0 : Int32)), .val (.ref d), .val (.int (0 : Int32)), .val (.int (2 : Int32)), .val (.int (0 : Int32)), .unset] [(.ref b)])
  refine Fin.go (fun _ k => XS.iloadN X0.here hx rfl (hb hby d12_11) rfl k) ?_
  show Fin _ p e below s _ _ _ s₁ (mkF m 12 #[.val (.ref b), .val (.int (0 : Int32)), .val (.ref d), .val (.int (0 : Int32)), .val (.int (2 : Int32)), .val (.int (0 : Int32)), .unset] [(.int (0 : Int32)), (.ref b)])
  obtain ⟨c11, B11, q11, S11, M11, H11, G11⟩ := id VB
  have i11 := inb_of S11 ⟨(by decide : ¬ ((0 : Int32) < (0 : Int32))), (by decide : (0 : Int32) < (2 : Int32))⟩
  refine Fin.go (fun _ k => X0.caload hx (j := (0 : Int32)) (v := (.int x1)) (by rw [e0]; exact B11.1) (State.isArrayOf_alike hZ.alike B11.2.1) B11.2.2 i11 (Has.at H11 i11 rfl) (g := (mkF m 12 #[.val (.ref b), .val (.int (0 : Int32)), .val (.ref d), .val (.int (0 : Int32)), .val (.int (2 : Int32)), .val (.int (0 : Int32)), .unset] [(.int (0 : Int32)), (.ref b)])) rfl rfl (hb hby d12_12) _ k) ?_
  show Fin _ p e below s _ _ _ s₁ (mkF m 13 #[.val (.ref b), .val (.int (0 : Int32)), .val (.ref d), .val (.int (0 : Int32)), .val (.int (2 : Int32)), .val (.int (0 : Int32)), .unset] [(.int x1)])
  refine Fin.go (fun _ k => XS.istore X0.here hx rfl (hb hby d12_13) rfl (l' := #[.val (.ref b), .val (.int (0 : Int32)), .val (.ref d), .val (.int (0 : Int32)), .val (.int (2 : Int32)), .val (.int (0 : Int32)), .val (.int x1)]) rfl k) ?_
  show Fin _ p e below s _ _ _ s₁ (mkF m 15 #[.val (.ref b), .val (.int (0 : Int32)), .val (.ref d), .val (.int (0 : Int32)), .val (.int (2 : Int32)), .val (.int (0 : Int32)), .val (.int x1)] [])
  refine Fin.go (fun _ k => XS.iload X0.here hx rfl (hb hby d12_15) rfl k) ?_
  show Fin _ p e below s _ _ _ s₁ (mkF m 17 #[.val (.ref b), .val (.int (0 : Int32)), .val (.ref d), .val (.int (0 : Int32)), .val (.int (2 : Int32)), .val (.int (0 : Int32)), .val (.int x1)] [(.int x1)])
  refine Fin.go (fun _ k => XS.sipush X0.here hx rfl (hb hby d12_17) k) ?_
  show Fin _ p e below s _ _ _ s₁ (mkF m 20 #[.val (.ref b), .val (.int (0 : Int32)), .val (.ref d), .val (.int (0 : Int32)), .val (.int (2 : Int32)), .val (.int (0 : Int32)), .val (.int x1)] [(.int (255 : Int32)), (.int x1)])
  refine Fin.go (fun _ k => XS.icmpYes X0.here hx rfl (pc0 := 20) (pc' := 26) rfl (hb hby d12_20) rfl (XT.ii_le_t hp1) (by decide) (by decide) k) ?_
  show Fin _ p e below s _ _ _ s₁ (mkF m 26 #[.val (.ref b), .val (.int (0 : Int32)), .val (.ref d), .val (.int (0 : Int32)), .val (.int (2 : Int32)), .val (.int (0 : Int32)), .val (.int x1)] [])
  refine Fin.go (fun _ k => XS.aloadN X0.here hx rfl (hb hby d12_26) rfl rfl k) ?_
  show Fin _ p e below s _ _ _ s₁ (mkF m 27 #[.val (.ref b), .val (.int (0 : Int32)), .val (.ref d), .val (.int (0 : Int32)), .val (.int (2 : Int32)), .val (.int (0 : Int32)), .val (.int x1)] [(.ref d)])
  refine Fin.go (fun _ k => XS.iloadN X0.here hx rfl (hb hby d12_27) rfl k) ?_
  show Fin _ p e below s _ _ _ s₁ (mkF m 28 #[.val (.ref b), .val (.int (0 : Int32)), .val (.ref d), .val (.int (0 : Int32)), .val (.int (2 : Int32)), .val (.int (0 : Int32)), .val (.int x1)] [(.int (0 : Int32)), (.ref d)])
  refine Fin.go (fun _ k => XS.iload X0.here hx rfl (hb hby d12_28) rfl k) ?_
  show Fin _ p e below s _ _ _ s₁ (mkF m 30 #[.val (.ref b), .val (.int (0 : Int32)), .val (.ref d), .val (.int (0 : Int32)), .val (.int (2 : Int32)), .val (.int (0 : Int32)), .val (.int x1)] [(.int x1), (.int (0 : Int32)), (.ref d)])
  refine Fin.go (fun _ k => XT.i2b X0.here hx rfl (hb hby d12_30) rfl k) ?_
  show Fin _ p e below s _ _ _ s₁ (mkF m 31 #[.val (.ref b), .val (.int (0 : Int32)), .val (.ref d), .val (.int (0 : Int32)), .val (.int (2 : Int32)), .val (.int (0 : Int32)), .val (.int x1)] [(.int ((Int32.toInt8 x1).toInt32)), (.int (0 : Int32)), (.ref d)])
  obtain ⟨c12, B12, q12, S12, M12, H12, G12⟩ := id VD
  obtain ⟨T12, h12, X12, e12, W12, st12⟩ := stB X0 hx hZ e0 B12 (j := (0 : Int32)) (inb_of S12 ⟨(by decide : ¬ ((0 : Int32) < (0 : Int32))), (by decide : (0 : Int32) < (2 : Int32))⟩) (g := (mkF m 31 #[.val (.ref b), .val (.int (0 : Int32)), .val (.ref d), .val (.int (0 : Int32)), .val (.int (2 : Int32)), .val (.int (0 : Int32)), .val (.int x1)] [(.int ((Int32.toInt8 x1).toInt32)), (.int (0 : Int32)), (.ref d)])) rfl rfl (hb hby d12_31)
  refine Fin.go st12 ?_
  have V12 : Arv Z h12 d kd .byte (2 : Int32) [(.int ((Int32.toInt8 x1).toInt32)), (.int (0 : Int32))] (.int (0 : Int32)) := (by have q : Arv Z h12 d kd .byte (2 : Int32) [(.int (nar .byte ((Int32.toInt8 x1).toInt32))), (.int (0 : Int32))] (.int (0 : Int32)) := (Arv.set B12 q12 S12 M12 H12 G12 (fits_nar_byte _) W12 0 rfl (Nat.le_of_ble_eq_true rfl)); rwa [nar_b8] at q)
  have N12 := Fr.snoc X12 N0 nd
  have O12 := O.wr W12 nd
  have K12 := K0.wr W12 (Or.inl (List.mem_of_getElem? (i := 0) rfl))
  show Fin _ p e below s _ _ _ T12 (mkF m 32 #[.val (.ref b), .val (.int (0 : Int32)), .val (.ref d), .val (.int (0 : Int32)), .val (.int (2 : Int32)), .val (.int (0 : Int32)), .val (.int x1)] [])
  refine Fin.go (fun _ k => XS.iinc X12.here hx rfl (hb hby d12_32) rfl (l' := #[.val (.ref b), .val (.int ((0 : Int32) + (1 : Int32))), .val (.ref d), .val (.int (0 : Int32)), .val (.int (2 : Int32)), .val (.int (0 : Int32)), .val (.int x1)]) rfl k) ?_
  show Fin _ p e below s _ _ _ T12 (mkF m 35 #[.val (.ref b), .val (.int ((0 : Int32) + (1 : Int32))), .val (.ref d), .val (.int (0 : Int32)), .val (.int (2 : Int32)), .val (.int (0 : Int32)), .val (.int x1)] [])
  refine Fin.go (fun _ k => XS.iinc X12.here hx rfl (hb hby d12_35) rfl (l' := #[.val (.ref b), .val (.int ((0 : Int32) + (1 : Int32))), .val (.ref d), .val (.int ((0 : Int32) + (1 : Int32))), .val (.int (2 : Int32)), .val (.int (0 : Int32)), .val (.int x1)]) rfl k) ?_
  show Fin _ p e below s _ _ _ T12 (mkF m 38 #[.val (.ref b), .val (.int ((0 : Int32) + (1 : Int32))), .val (.ref d), .val (.int ((0 : Int32) + (1 : Int32))), .val (.int (2 : Int32)), .val (.int (0 : Int32)), .val (.int x1)] [])
  refine Fin.go (fun _ k => XS.iinc X12.here hx rfl (hb hby d12_38) rfl (l' := #[.val (.ref b), .val (.int ((0 : Int32) + (1 : Int32))), .val (.ref d), .val (.int ((0 : Int32) + (1 : Int32))), .val (.int (2 : Int32)), .val (.int ((0 : Int32) + (1 : Int32))), .val (.int x1)]) rfl k) ?_
  show Fin _ p e below s _ _ _ T12 (mkF m 41 #[.val (.ref b), .val (.int ((0 : Int32) + (1 : Int32))), .val (.ref d), .val (.int ((0 : Int32) + (1 : Int32))), .val (.int (2 : Int32)), .val (.int ((0 : Int32) + (1 : Int32))), .val (.int x1)] [])
  refine Fin.go (fun _ k => XS.goto X12.here hx rfl (pc0 := 41) (pc' := 3) rfl (hb hby d12_41) (by decide) (by decide) k) ?_
  show Fin _ p e below s _ _ _ T12 (mkF m 3 #[.val (.ref b), .val (.int ((0 : Int32) + (1 : Int32))), .val (.ref d), .val (.int ((0 : Int32) + (1 : Int32))), .val (.int (2 : Int32)), .val (.int ((0 : Int32) + (1 : Int32))), .val (.int x1)] [])
  refine Fin.go (fun _ k => XS.iload X12.here hx rfl (hb hby d12_3) rfl k) ?_
  show Fin _ p e below s _ _ _ T12 (mkF m 5 #[.val (.ref b), .val (.int ((0 : Int32) + (1 : Int32))), .val (.ref d), .val (.int ((0 : Int32) + (1 : Int32))), .val (.int (2 : Int32)), .val (.int ((0 : Int32) + (1 : Int32))), .val (.int x1)] [(.int ((0 : Int32) + (1 : Int32)))])
  refine Fin.go (fun _ k => XS.iload X12.here hx rfl (hb hby d12_5) rfl k) ?_
  show Fin _ p e below s _ _ _ T12 (mkF m 7 #[.val (.ref b), .val (.int ((0 : Int32) + (1 : Int32))), .val (.ref d), .val (.int ((0 : Int32) + (1 : Int32))), .val (.int (2 : Int32)), .val (.int ((0 : Int32) + (1 : Int32))), .val (.int x1)] [(.int (2 : Int32)), (.int ((0 : Int32) + (1 : Int32)))])
  refine Fin.go (fun _ k => XS.icmpNo X12.here hx rfl (hb hby d12_7) rfl (XT.ii_ge_f (by decide)) k) ?_
  show Fin _ p e below s _ _ _ T12 (mkF m 10 #[.val (.ref b), .val (.int ((0 : Int32) + (1 : Int32))), .val (.ref d), .val (.int ((0 : Int32) + (1 : Int32))), .val (.int (2 : Int32)), .val (.int ((0 : Int32) + (1 : Int32))), .val (.int x1)] [])
  refine Fin.go (fun _ k => XS.aloadN X12.here hx rfl (hb hby d12_10) rfl rfl k) ?_
  show Fin _ p e below s _ _ _ T12 (mkF m 11 #[.val (.ref b), .val (.int ((0 : Int32) + (1 : Int32))), .val (.ref d), .val (.int ((0 : Int32) + (1 : Int32))), .val (.int (2 : Int32)), .val (.int ((0 : Int32) + (1 : Int32))), .val (.int x1)] [(.ref b)])
  refine Fin.go (fun _ k => XS.iloadN X12.here hx rfl (hb hby d12_11) rfl k) ?_
  show Fin _ p e below s _ _ _ T12 (mkF m 12 #[.val (.ref b), .val (.int ((0 : Int32) + (1 : Int32))), .val (.ref d), .val (.int ((0 : Int32) + (1 : Int32))), .val (.int (2 : Int32)), .val (.int ((0 : Int32) + (1 : Int32))), .val (.int x1)] [(.int ((0 : Int32) + (1 : Int32))), (.ref b)])
  obtain ⟨c13, B13, q13, S13, M13, H13, G13⟩ := id (VB.other W12 nbd)
  have i13 := inb_of S13 ⟨(by decide : ¬ (((0 : Int32) + (1 : Int32)) < (0 : Int32))), (by decide : ((0 : Int32) + (1 : Int32)) < (2 : Int32))⟩
  refine Fin.go (fun _ k => X12.caload hx (j := ((0 : Int32) + (1 : Int32))) (v := (.int x2)) (by rw [e12]; exact B13.1) (State.isArrayOf_alike hZ.alike B13.2.1) B13.2.2 i13 (Has.at H13 i13 rfl) (g := (mkF m 12 #[.val (.ref b), .val (.int ((0 : Int32) + (1 : Int32))), .val (.ref d), .val (.int ((0 : Int32) + (1 : Int32))), .val (.int (2 : Int32)), .val (.int ((0 : Int32) + (1 : Int32))), .val (.int x1)] [(.int ((0 : Int32) + (1 : Int32))), (.ref b)])) rfl rfl (hb hby d12_12) _ k) ?_
  show Fin _ p e below s _ _ _ T12 (mkF m 13 #[.val (.ref b), .val (.int ((0 : Int32) + (1 : Int32))), .val (.ref d), .val (.int ((0 : Int32) + (1 : Int32))), .val (.int (2 : Int32)), .val (.int ((0 : Int32) + (1 : Int32))), .val (.int x1)] [(.int x2)])
  refine Fin.go (fun _ k => XS.istore X12.here hx rfl (hb hby d12_13) rfl (l' := #[.val (.ref b), .val (.int ((0 : Int32) + (1 : Int32))), .val (.ref d), .val (.int ((0 : Int32) + (1 : Int32))), .val (.int (2 : Int32)), .val (.int ((0 : Int32) + (1 : Int32))), .val (.int x2)]) rfl k) ?_
  show Fin _ p e below s _ _ _ T12 (mkF m 15 #[.val (.ref b), .val (.int ((0 : Int32) + (1 : Int32))), .val (.ref d), .val (.int ((0 : Int32) + (1 : Int32))), .val (.int (2 : Int32)), .val (.int ((0 : Int32) + (1 : Int32))), .val (.int x2)] [])
  refine Fin.go (fun _ k => XS.iload X12.here hx rfl (hb hby d12_15) rfl k) ?_
  show Fin _ p e below s _ _ _ T12 (mkF m 17 #[.val (.ref b), .val (.int ((0 : Int32) + (1 : Int32))), .val (.ref d), .val (.int ((0 : Int32) + (1 : Int32))), .val (.int (2 : Int32)), .val (.int ((0 : Int32) + (1 : Int32))), .val (.int x2)] [(.int x2)])
  refine Fin.go (fun _ k => XS.sipush X12.here hx rfl (hb hby d12_17) k) ?_
  show Fin _ p e below s _ _ _ T12 (mkF m 20 #[.val (.ref b), .val (.int ((0 : Int32) + (1 : Int32))), .val (.ref d), .val (.int ((0 : Int32) + (1 : Int32))), .val (.int (2 : Int32)), .val (.int ((0 : Int32) + (1 : Int32))), .val (.int x2)] [(.int (255 : Int32)), (.int x2)])
  refine Fin.go (fun _ k => XS.icmpYes X12.here hx rfl (pc0 := 20) (pc' := 26) rfl (hb hby d12_20) rfl (XT.ii_le_t hp2) (by decide) (by decide) k) ?_
  show Fin _ p e below s _ _ _ T12 (mkF m 26 #[.val (.ref b), .val (.int ((0 : Int32) + (1 : Int32))), .val (.ref d), .val (.int ((0 : Int32) + (1 : Int32))), .val (.int (2 : Int32)), .val (.int ((0 : Int32) + (1 : Int32))), .val (.int x2)] [])
  refine Fin.go (fun _ k => XS.aloadN X12.here hx rfl (hb hby d12_26) rfl rfl k) ?_
  show Fin _ p e below s _ _ _ T12 (mkF m 27 #[.val (.ref b), .val (.int ((0 : Int32) + (1 : Int32))), .val (.ref d), .val (.int ((0 : Int32) + (1 : Int32))), .val (.int (2 : Int32)), .val (.int ((0 : Int32) + (1 : Int32))), .val (.int x2)] [(.ref d)])
  refine Fin.go (fun _ k => XS.iloadN X12.here hx rfl (hb hby d12_27) rfl k) ?_
  show Fin _ p e below s _ _ _ T12 (mkF m 28 #[.val (.ref b), .val (.int ((0 : Int32) + (1 : Int32))), .val (.ref d), .val (.int ((0 : Int32) + (1 : Int32))), .val (.int (2 : Int32)), .val (.int ((0 : Int32) + (1 : Int32))), .val (.int x2)] [(.int ((0 : Int32) + (1 : Int32))), (.ref d)])
  refine Fin.go (fun _ k => XS.iload X12.here hx rfl (hb hby d12_28) rfl k) ?_
  show Fin _ p e below s _ _ _ T12 (mkF m 30 #[.val (.ref b), .val (.int ((0 : Int32) + (1 : Int32))), .val (.ref d), .val (.int ((0 : Int32) + (1 : Int32))), .val (.int (2 : Int32)), .val (.int ((0 : Int32) + (1 : Int32))), .val (.int x2)] [(.int x2), (.int ((0 : Int32) + (1 : Int32))), (.ref d)])
  refine Fin.go (fun _ k => XT.i2b X12.here hx rfl (hb hby d12_30) rfl k) ?_
  show Fin _ p e below s _ _ _ T12 (mkF m 31 #[.val (.ref b), .val (.int ((0 : Int32) + (1 : Int32))), .val (.ref d), .val (.int ((0 : Int32) + (1 : Int32))), .val (.int (2 : Int32)), .val (.int ((0 : Int32) + (1 : Int32))), .val (.int x2)] [(.int ((Int32.toInt8 x2).toInt32)), (.int ((0 : Int32) + (1 : Int32))), (.ref d)])
  obtain ⟨c14, B14, q14, S14, M14, H14, G14⟩ := id V12
  obtain ⟨T14, h14, X14, e14, W14, st14⟩ := stB X12 hx hZ e12 B14 (j := ((0 : Int32) + (1 : Int32))) (inb_of S14 ⟨(by decide : ¬ (((0 : Int32) + (1 : Int32)) < (0 : Int32))), (by decide : ((0 : Int32) + (1 : Int32)) < (2 : Int32))⟩) (g := (mkF m 31 #[.val (.ref b), .val (.int ((0 : Int32) + (1 : Int32))), .val (.ref d), .val (.int ((0 : Int32) + (1 : Int32))), .val (.int (2 : Int32)), .val (.int ((0 : Int32) + (1 : Int32))), .val (.int x2)] [(.int ((Int32.toInt8 x2).toInt32)), (.int ((0 : Int32) + (1 : Int32))), (.ref d)])) rfl rfl (hb hby d12_31)
  refine Fin.go st14 ?_
  have V14 : Arv Z h14 d kd .byte (2 : Int32) [(.int ((Int32.toInt8 x1).toInt32)), (.int ((Int32.toInt8 x2).toInt32))] (.int (0 : Int32)) := (by have q : Arv Z h14 d kd .byte (2 : Int32) [(.int ((Int32.toInt8 x1).toInt32)), (.int (nar .byte ((Int32.toInt8 x2).toInt32)))] (.int (0 : Int32)) := (Arv.set B14 q14 S14 M14 H14 G14 (fits_nar_byte _) W14 1 rfl (Nat.le_of_ble_eq_true rfl)); rwa [nar_b8] at q)
  have N14 := Fr.snoc X14 N12 nd
  have O14 := O12.wr W14 nd
  have K14 := K12.wr W14 (Or.inl (List.mem_of_getElem? (i := 0) rfl))
  show Fin _ p e below s _ _ _ T14 (mkF m 32 #[.val (.ref b), .val (.int ((0 : Int32) + (1 : Int32))), .val (.ref d), .val (.int ((0 : Int32) + (1 : Int32))), .val (.int (2 : Int32)), .val (.int ((0 : Int32) + (1 : Int32))), .val (.int x2)] [])
  refine Fin.go (fun _ k => XS.iinc X14.here hx rfl (hb hby d12_32) rfl (l' := #[.val (.ref b), .val (.int (((0 : Int32) + (1 : Int32)) + (1 : Int32))), .val (.ref d), .val (.int ((0 : Int32) + (1 : Int32))), .val (.int (2 : Int32)), .val (.int ((0 : Int32) + (1 : Int32))), .val (.int x2)]) rfl k) ?_
  show Fin _ p e below s _ _ _ T14 (mkF m 35 #[.val (.ref b), .val (.int (((0 : Int32) + (1 : Int32)) + (1 : Int32))), .val (.ref d), .val (.int ((0 : Int32) + (1 : Int32))), .val (.int (2 : Int32)), .val (.int ((0 : Int32) + (1 : Int32))), .val (.int x2)] [])
  refine Fin.go (fun _ k => XS.iinc X14.here hx rfl (hb hby d12_35) rfl (l' := #[.val (.ref b), .val (.int (((0 : Int32) + (1 : Int32)) + (1 : Int32))), .val (.ref d), .val (.int (((0 : Int32) + (1 : Int32)) + (1 : Int32))), .val (.int (2 : Int32)), .val (.int ((0 : Int32) + (1 : Int32))), .val (.int x2)]) rfl k) ?_
  show Fin _ p e below s _ _ _ T14 (mkF m 38 #[.val (.ref b), .val (.int (((0 : Int32) + (1 : Int32)) + (1 : Int32))), .val (.ref d), .val (.int (((0 : Int32) + (1 : Int32)) + (1 : Int32))), .val (.int (2 : Int32)), .val (.int ((0 : Int32) + (1 : Int32))), .val (.int x2)] [])
  refine Fin.go (fun _ k => XS.iinc X14.here hx rfl (hb hby d12_38) rfl (l' := #[.val (.ref b), .val (.int (((0 : Int32) + (1 : Int32)) + (1 : Int32))), .val (.ref d), .val (.int (((0 : Int32) + (1 : Int32)) + (1 : Int32))), .val (.int (2 : Int32)), .val (.int (((0 : Int32) + (1 : Int32)) + (1 : Int32))), .val (.int x2)]) rfl k) ?_
  show Fin _ p e below s _ _ _ T14 (mkF m 41 #[.val (.ref b), .val (.int (((0 : Int32) + (1 : Int32)) + (1 : Int32))), .val (.ref d), .val (.int (((0 : Int32) + (1 : Int32)) + (1 : Int32))), .val (.int (2 : Int32)), .val (.int (((0 : Int32) + (1 : Int32)) + (1 : Int32))), .val (.int x2)] [])
  refine Fin.go (fun _ k => XS.goto X14.here hx rfl (pc0 := 41) (pc' := 3) rfl (hb hby d12_41) (by decide) (by decide) k) ?_
  show Fin _ p e below s _ _ _ T14 (mkF m 3 #[.val (.ref b), .val (.int (((0 : Int32) + (1 : Int32)) + (1 : Int32))), .val (.ref d), .val (.int (((0 : Int32) + (1 : Int32)) + (1 : Int32))), .val (.int (2 : Int32)), .val (.int (((0 : Int32) + (1 : Int32)) + (1 : Int32))), .val (.int x2)] [])
  refine Fin.go (fun _ k => XS.iload X14.here hx rfl (hb hby d12_3) rfl k) ?_
  show Fin _ p e below s _ _ _ T14 (mkF m 5 #[.val (.ref b), .val (.int (((0 : Int32) + (1 : Int32)) + (1 : Int32))), .val (.ref d), .val (.int (((0 : Int32) + (1 : Int32)) + (1 : Int32))), .val (.int (2 : Int32)), .val (.int (((0 : Int32) + (1 : Int32)) + (1 : Int32))), .val (.int x2)] [(.int (((0 : Int32) + (1 : Int32)) + (1 : Int32)))])
  refine Fin.go (fun _ k => XS.iload X14.here hx rfl (hb hby d12_5) rfl k) ?_
  show Fin _ p e below s _ _ _ T14 (mkF m 7 #[.val (.ref b), .val (.int (((0 : Int32) + (1 : Int32)) + (1 : Int32))), .val (.ref d), .val (.int (((0 : Int32) + (1 : Int32)) + (1 : Int32))), .val (.int (2 : Int32)), .val (.int (((0 : Int32) + (1 : Int32)) + (1 : Int32))), .val (.int x2)] [(.int (2 : Int32)), (.int (((0 : Int32) + (1 : Int32)) + (1 : Int32)))])
  refine Fin.go (fun _ k => XS.icmpYes X14.here hx rfl (pc0 := 7) (pc' := 44) rfl (hb hby d12_7) rfl (XT.ii_ge_t (by decide)) (by decide) (by decide) k) ?_
  show Fin _ p e below s _ _ _ T14 (mkF m 44 #[.val (.ref b), .val (.int (((0 : Int32) + (1 : Int32)) + (1 : Int32))), .val (.ref d), .val (.int (((0 : Int32) + (1 : Int32)) + (1 : Int32))), .val (.int (2 : Int32)), .val (.int (((0 : Int32) + (1 : Int32)) + (1 : Int32))), .val (.int x2)] [])
  refine Fin.go (fun _ k => XS.iload X14.here hx rfl (hb hby d12_44) rfl k) ?_
  show Fin _ p e below s _ _ _ T14 (mkF m 46 #[.val (.ref b), .val (.int (((0 : Int32) + (1 : Int32)) + (1 : Int32))), .val (.ref d), .val (.int (((0 : Int32) + (1 : Int32)) + (1 : Int32))), .val (.int (2 : Int32)), .val (.int (((0 : Int32) + (1 : Int32)) + (1 : Int32))), .val (.int x2)] [(.int (2 : Int32))])
  exact Fin.leaveN X14 e14 hlk (v := some (.int (2 : Int32))) (fun h => by rw [hret] at h; cases h) (by decide) (by decide) ⟨rfl, N14, K14, V14⟩ (fun fs hr => retI X14 hx hret (hb hby d12_46) hr)
set_option maxRecDepth 65536 in
set_option maxHeartbeats 40000000 in
theorem rmCmpA2 (l : Launch) (Z : State) (a0 : Array Value) (hw : ∀ d ∈ tables_1, d.before a0 Z = true) (n0 : Nat) (h0 : Heap) (O : Old Z n0 h0) (b : Addr) (kb : ClassId) (x1 x2 : Int32) (VB : Arv Z h0 b kb .char (2 : Int32) [(.int x1), (.int x2)] (.int (0 : Int32))) (hp1 : ¬ (255 : Int32) < x1) (hp2 : ¬ (255 : Int32) < x2) :
    ConW FrameEnd l Z [] (⟨"java/lang/StringUTF16", "compress", "([CII)[B"⟩ : MethodName) jdk_52_method_16_code 6 (some (.array .byte)) ({ frames := 1, cells := 1, slots := 2, locals := 18 } : Room) #[(.ref b), (.int (0 : Int32)), (.int (2 : Int32))] h0 (fun v h L => ∃ d kd, v = some (.ref d) ∧ Fr n0 L ∧ Keep h0 h [] ∧ Arv Z h d kd .byte (2 : Int32) [(.int ((Int32.toInt8 x1).toInt32)), (.int ((Int32.toInt8 x2).toInt32))] (.int (0 : Int32)) ∧ h0.size ≤ d) := by
  refine conOf (plainFor_of_name pn_java_lang_StringUTF16) ?_
  intro p e s m below mth cc s₁ X0 hx hby hml hown hnm hret hlk hZ e0
  have N0 := Fr.nil n0
  have K0 := Keep.refl h0 ([] : List Addr)
  refine Fin.came (castTop (t := _) (by first | (simp [entryFrame, mkF, argsToLocals, Value.category]; done) | rfl) (Steps.refl _) : Steps p.tables e below (s₁.setTop (entryFrame m #[(.ref b), (.int (0 : Int32)), (.int (2 : Int32))] 6)) (s₁.setTop (mkF m 0 #[.val (.ref b), .val (.int (0 : Int32)), .val (.int (2 : Int32)), .unset, .unset, .unset] []))) ?_
  show Fin _ p e below s _ _ _ s₁ (mkF m 0 #[.val (.ref b), .val (.int (0 : Int32)), .val (.int (2 : Int32)), .unset, .unset, .unset] [])
  refine Fin.go (fun _ k => XS.iloadN X0.here hx rfl (hb hby d11_0) rfl k) ?_
  show Fin _ p e below s _ _ _ s₁ (mkF m 1 #[.val (.ref b), .val (.int (0 : Int32)), .val (.int (2 : Int32)), .unset, .unset, .unset] [(.int (2 : Int32))])
  obtain ⟨T11, h11, k11, X11, e11, E11, A11, st11⟩ := newP X0 hx hZ (aty := .byte) (hw _ w_27) e0 (g := (mkF m 1 #[.val (.ref b), .val (.int (0 : Int32)), .val (.int (2 : Int32)), .unset, .unset, .unset] [(.int (2 : Int32))])) rfl (hb hby d11_1) rfl (by decide : ¬ ((2 : Int32) < (0 : Int32))) (cap := 2) (by decide) (by decide) (by decide) (by decide)
  obtain ⟨a11, g11⟩ : ∃ z, z = h0.size := ⟨_, rfl⟩
  rw [← g11] at A11 st11
  refine Fin.go st11 ?_
  have O11 := O.ext E11
  have K11 := K0.ext E11
  have n11 : n0 ≤ a11 := by have := O.2.1; have := O.1; omega
  have z11 : h0.size ≤ a11 := by have := K0.1; omega
  have V11 : Arv Z h11 a11 k11 .byte (2 : Int32) [(.int (0 : Int32)), (.int (0 : Int32))] (.int (0 : Int32)) := (Arv.new A11 (by decide)).pad (pad_rep [] (.int (0 : Int32)) 2)
  show Fin _ p e below s _ _ _ T11 (mkF m 3 #[.val (.ref b), .val (.int (0 : Int32)), .val (.int (2 : Int32)), .unset, .unset, .unset] [(.ref a11)])
  refine Fin.go (fun _ k => XS.astoreN X11.here hx rfl (hb hby d11_3) rfl rfl (l' := #[.val (.ref b), .val (.int (0 : Int32)), .val (.int (2 : Int32)), .val (.ref a11), .unset, .unset]) rfl k) ?_
  show Fin _ p e below s _ _ _ T11 (mkF m 4 #[.val (.ref b), .val (.int (0 : Int32)), .val (.int (2 : Int32)), .val (.ref a11), .unset, .unset] [])
  refine Fin.go (fun _ k => XS.aloadN X11.here hx rfl (hb hby d11_4) rfl rfl k) ?_
  show Fin _ p e below s _ _ _ T11 (mkF m 5 #[.val (.ref b), .val (.int (0 : Int32)), .val (.int (2 : Int32)), .val (.ref a11), .unset, .unset] [(.ref b)])
  refine Fin.go (fun _ k => XS.iloadN X11.here hx rfl (hb hby d11_5) rfl k) ?_
  show Fin _ p e below s _ _ _ T11 (mkF m 6 #[.val (.ref b), .val (.int (0 : Int32)), .val (.int (2 : Int32)), .val (.ref a11), .unset, .unset] [(.int (0 : Int32)), (.ref b)])
  refine Fin.go (fun _ k => XS.aloadN X11.here hx rfl (hb hby d11_6) rfl rfl k) ?_
  show Fin _ p e below s _ _ _ T11 (mkF m 7 #[.val (.ref b), .val (.int (0 : Int32)), .val (.int (2 : Int32)), .val (.ref a11), .unset, .unset] [(.ref a11), (.int (0 : Int32)), (.ref b)])
  refine Fin.go (fun _ k => XS.iconst X11.here hx rfl (hb hby d11_7) k) ?_
  show Fin _ p e below s _ _ _ T11 (mkF m 8 #[.val (.ref b), .val (.int (0 : Int32)), .val (.int (2 : Int32)), .val (.ref a11), .unset, .unset] [(.int (0 : Int32)), (.ref a11), (.int (0 : Int32)), (.ref b)])
  refine Fin.go (fun _ k => XS.iloadN X11.here hx rfl (hb hby d11_8) rfl k) ?_
  show Fin _ p e below s _ _ _ T11 (mkF m 9 #[.val (.ref b), .val (.int (0 : Int32)), .val (.int (2 : Int32)), .val (.ref a11), .unset, .unset] [(.int (2 : Int32)), (.int (0 : Int32)), (.ref a11), (.int (0 : Int32)), (.ref b)])
  obtain ⟨v12, T12, L12, X12, q12, st12⟩ := callSt X11 hx hZ (y := (⟨"java/lang/StringUTF16", "compress", "([CI[BII)I"⟩ : MethodName)) hown (hw _ w_81) (hw _ w_82) (hw _ w_79) (hw _ w_83) (by decide) (W := 0) (rmCmpB2 l Z a0 hw n0 h11 O11 b a11 kb k11 x1 x2 (VB.ext E11) V11 hp1 hp2 n11 (Nat.ne_of_lt (Nat.lt_of_lt_of_eq VB.lt g11.symm))) e11 (by decide) (by decide) (by decide) (by decide) (g := (mkF m 9 #[.val (.ref b), .val (.int (0 : Int32)), .val (.int (2 : Int32)), .val (.ref a11), .unset, .unset] [(.int (2 : Int32)), (.int (0 : Int32)), (.ref a11), (.int (0 : Int32)), (.ref b)])) rfl (by rw [hml]; rfl) (argsL := [(.ref b), (.int (0 : Int32)), (.ref a11), (.int (0 : Int32)), (.int (2 : Int32))]) (rest := []) (lenOf pd_oACIABIIcI rfl) rfl (by show 2 * 0 + _ ≤ _; exact Nat.le_of_eq rfl) (hb hby d11_9)
  obtain ⟨rfl, Nq12, Kq12, V12⟩ := q12
  have N12 := Fr.app N0 Nq12
  have O12 := O11.keep Kq12 (allS n11 all0)
  have K12 := K11.trans Kq12 (allS (Or.inr z11) all0)
  refine Fin.go st12 ?_
  have V12_b := ((VB.ext E11).keep Kq12 (ninS (Nat.ne_of_lt (Nat.lt_of_lt_of_eq VB.lt g11.symm)) nin0))
  show Fin _ p e below s _ _ _ T12 (mkF m 12 #[.val (.ref b), .val (.int (0 : Int32)), .val (.int (2 : Int32)), .val (.ref a11), .unset, .unset] [(.int (2 : Int32))])
  refine Fin.go (fun _ k => XS.istore X12.here hx rfl (hb hby d11_12) rfl (l' := #[.val (.ref b), .val (.int (0 : Int32)), .val (.int (2 : Int32)), .val (.ref a11), .val (.int (2 : Int32)), .unset]) rfl k) ?_
  show Fin _ p e below s _ _ _ T12 (mkF m 14 #[.val (.ref b), .val (.int (0 : Int32)), .val (.int (2 : Int32)), .val (.ref a11), .val (.int (2 : Int32)), .unset] [])
  refine Fin.go (fun _ k => XS.iload X12.here hx rfl (hb hby d11_14) rfl k) ?_
  show Fin _ p e below s _ _ _ T12 (mkF m 16 #[.val (.ref b), .val (.int (0 : Int32)), .val (.int (2 : Int32)), .val (.ref a11), .val (.int (2 : Int32)), .unset] [(.int (2 : Int32))])
  refine Fin.go (fun _ k => XS.iloadN X12.here hx rfl (hb hby d11_16) rfl k) ?_
  show Fin _ p e below s _ _ _ T12 (mkF m 17 #[.val (.ref b), .val (.int (0 : Int32)), .val (.int (2 : Int32)), .val (.ref a11), .val (.int (2 : Int32)), .unset] [(.int (2 : Int32)), (.int (2 : Int32))])
  refine Fin.go (fun _ k => XS.icmpYes X12.here hx rfl (pc0 := 17) (pc' := 57) rfl (hb hby d11_17) rfl (XT.ii_eq_t (by decide)) (by decide) (by decide) k) ?_
  show Fin _ p e below s _ _ _ T12 (mkF m 57 #[.val (.ref b), .val (.int (0 : Int32)), .val (.int (2 : Int32)), .val (.ref a11), .val (.int (2 : Int32)), .unset] [])
  refine Fin.go (fun _ k => XS.aloadN X12.here hx rfl (hb hby d11_57) rfl rfl k) ?_
  show Fin _ p e below s _ _ _ T12 (mkF m 58 #[.val (.ref b), .val (.int (0 : Int32)), .val (.int (2 : Int32)), .val (.ref a11), .val (.int (2 : Int32)), .unset] [(.ref a11)])
  exact Fin.leaveN X12 (rfl : T12.heap = T12.heap) hlk (v := some (.ref a11)) (fun h => by rw [hret] at h; cases h) (by decide) (by decide) ⟨a11, k11, rfl, N12, K12, V12, z11⟩ (fun fs hr => retOut X12 hx hret rfl (Or.inr (Or.inr (Or.inr (Or.inr ⟨rfl, rfl, rfl⟩)))) (hb hby d11_58) hr)
set_option maxRecDepth 65536 in
set_option maxHeartbeats 40000000 in
theorem rmCod2 (l : Launch) (Z : State) (a0 : Array Value) (hw : ∀ d ∈ tables_1, d.before a0 Z = true) (n0 : Nat) (h0 : Heap) (O : Old Z n0 h0) (d : Addr) (kd : ClassId) (x1 x2 : Int32) (VD : Arv Z h0 d kd .byte (2 : Int32) [(.int x1), (.int x2)] (.int (0 : Int32))) :
    ConW FrameEnd l Z [] (⟨"java/lang/StringUTF16", "coderFromArrayLen", "([BI)B"⟩ : MethodName) jdk_52_method_15_code 2 (some .byte) ({ frames := 0, cells := 0, slots := 0, locals := 0 } : Room) #[(.ref d), (.int (2 : Int32))] h0 (Pure h0 (some (.int (0 : Int32)))) := by
  refine conOf (plainFor_of_name pn_java_lang_StringUTF16) ?_
  intro p e s m below mth cc s₁ X0 hx hby hml hown hnm hret hlk hZ e0
  have N0 := Fr.nil n0
  refine Fin.came (castTop (t := _) (by first | (simp [entryFrame, mkF, argsToLocals, Value.category]; done) | rfl) (Steps.refl _) : Steps p.tables e below (s₁.setTop (entryFrame m #[(.ref d), (.int (2 : Int32))] 2)) (s₁.setTop (mkF m 0 #[.val (.ref d), .val (.int (2 : Int32))] []))) ?_
  show Fin _ p e below s _ _ _ s₁ (mkF m 0 #[.val (.ref d), .val (.int (2 : Int32))] [])
  refine Fin.go (fun _ k => XS.iloadN X0.here hx rfl (hb hby d13_0) rfl k) ?_
  show Fin _ p e below s _ _ _ s₁ (mkF m 1 #[.val (.ref d), .val (.int (2 : Int32))] [(.int (2 : Int32))])
  refine Fin.go (fun _ k => XS.aloadN X0.here hx rfl (hb hby d13_1) rfl rfl k) ?_
  show Fin _ p e below s _ _ _ s₁ (mkF m 2 #[.val (.ref d), .val (.int (2 : Int32))] [(.ref d), (.int (2 : Int32))])
  obtain ⟨c11, B11, q11, S11, M11, H11, G11⟩ := id VD
  refine Fin.go (fun _ k => X0.arraylength hx (by rw [e0]; exact B11.1) (State.isArrayOf_alike hZ.alike B11.2.1) (g := (mkF m 2 #[.val (.ref d), .val (.int (2 : Int32))] [(.ref d), (.int (2 : Int32))])) rfl rfl (hb hby d13_2) _ k) ?_
  rw [len_of S11 M11]
  show Fin _ p e below s _ _ _ s₁ (mkF m 3 #[.val (.ref d), .val (.int (2 : Int32))] [(.int (2 : Int32)), (.int (2 : Int32))])
  refine Fin.go (fun _ k => XS.isub X0.here hx rfl (hb hby d13_3) rfl k) ?_
  show Fin _ p e below s _ _ _ s₁ (mkF m 4 #[.val (.ref d), .val (.int (2 : Int32))] [(.int ((2 : Int32) - (2 : Int32)))])
  refine Fin.go (fun _ k => XS.bipush X0.here hx rfl (hb hby d13_4) k) ?_
  show Fin _ p e below s _ _ _ s₁ (mkF m 6 #[.val (.ref d), .val (.int (2 : Int32))] [(.int (31 : Int32)), (.int ((2 : Int32) - (2 : Int32)))])
  refine Fin.go (fun _ k => XT.iushr X0.here hx rfl (hb hby d13_6) rfl k) ?_
  show Fin _ p e below s _ _ _ s₁ (mkF m 7 #[.val (.ref d), .val (.int (2 : Int32))] [(.int (XT.ushr ((2 : Int32) - (2 : Int32)) (31 : Int32)))])
  refine Fin.go (fun _ k => XT.i2b X0.here hx rfl (hb hby d13_7) rfl k) ?_
  show Fin _ p e below s _ _ _ s₁ (mkF m 8 #[.val (.ref d), .val (.int (2 : Int32))] [(.int ((Int32.toInt8 (XT.ushr ((2 : Int32) - (2 : Int32)) (31 : Int32))).toInt32))])
  exact Fin.leaveN X0 e0 hlk (v := some (.int (nar .byte ((Int32.toInt8 (XT.ushr ((2 : Int32) - (2 : Int32)) (31 : Int32))).toInt32)))) (fun h => by rw [hret] at h; cases h) (by decide) (by decide) ⟨by decide +kernel, rfl, rfl⟩ (fun fs hr => retN X0 hx (t := .byte) hret (by simp) (hb hby d13_8) hr)
set_option maxRecDepth 65536 in
set_option maxHeartbeats 40000000 in
theorem rmStrV2 (l : Launch) (Z : State) (a0 : Array Value) (hw : ∀ d ∈ tables_1, d.before a0 Z = true) (n0 : Nat) (h0 : Heap) (O : Old Z n0 h0) (a b : Addr) (kb : ClassId) (x1 x2 : Int32) (cs : Int32) (S_cs : Sta Z Z.heap "java/lang/String" "COMPACT_STRINGS" "Z" (.int cs)) (hcs : ¬ cs = 0) (VB : Arv Z h0 b kb .char (2 : Int32) [(.int x1), (.int x2)] (.int (0 : Int32))) (A : Exa Z h0 a "java/lang/String") (F1 : Fld Z h0 a "java/lang/String" "coder" "B" (.int (0 : Int32))) (F2 : Fld Z h0 a "java/lang/String" "value" "[B" .null) (hp1 : ¬ (255 : Int32) < x1) (hp2 : ¬ (255 : Int32) < x2) (na : n0 ≤ a) (nba : b ≠ a) :
    ConW FrameEnd l Z [] (⟨"java/lang/String", "<init>", "([CIILjava/lang/Void;)V"⟩ : MethodName) jdk_42_method_149_code 6 none ({ frames := 2, cells := 1, slots := 2, locals := 35 } : Room) #[(.ref a), (.ref b), (.int (0 : Int32)), (.int (2 : Int32)), .null] h0 (fun v h L => v = none ∧ Fr n0 L ∧ Keep h0 h [a] ∧ Exa Z h a "java/lang/String" ∧ Fld Z h a "java/lang/String" "coder" "B" (.int (0 : Int32)) ∧ ∃ d kd, Fld Z h a "java/lang/String" "value" "[B" (.ref d) ∧ Arv Z h d kd .byte (2 : Int32) [(.int ((Int32.toInt8 x1).toInt32)), (.int ((Int32.toInt8 x2).toInt32))] (.int (0 : Int32)) ∧ h0.size ≤ d) := by
  refine conOf (plainFor_of_name pn_java_lang_String) ?_
  intro p e s m below mth cc s₁ X0 hx hby hml hown hnm hret hlk hZ e0
  have N0 := Fr.nil n0
  have K0 := Keep.refl h0 ([a] : List Addr)
  refine Fin.came (castTop (t := _) (by first | (simp [entryFrame, mkF, argsToLocals, Value.category]; done) | rfl) (Steps.refl _) : Steps p.tables e below (s₁.setTop (entryFrame m #[(.ref a), (.ref b), (.int (0 : Int32)), (.int (2 : Int32)), .null] 6)) (s₁.setTop (mkF m 0 #[.val (.ref a), .val (.ref b), .val (.int (0 : Int32)), .val (.int (2 : Int32)), .val .null, .unset] []))) ?_
  show Fin _ p e below s _ _ _ s₁ (mkF m 0 #[.val (.ref a), .val (.ref b), .val (.int (0 : Int32)), .val (.int (2 : Int32)), .val .null, .unset] [])
  refine Fin.go (fun _ k => XS.aloadN X0.here hx rfl (hb hby d3_0) rfl rfl k) ?_
  show Fin _ p e below s _ _ _ s₁ (mkF m 1 #[.val (.ref a), .val (.ref b), .val (.int (0 : Int32)), .val (.int (2 : Int32)), .val .null, .unset] [(.ref a)])
  obtain ⟨T11, X11, e11, st11⟩ := initO X0 hx hZ hown (hw _ w_23) (hw _ w_24) (hw _ w_25) e0 (g := (mkF m 1 #[.val (.ref a), .val (.ref b), .val (.int (0 : Int32)), .val (.int (2 : Int32)), .val .null, .unset] [(.ref a)])) rfl (by rw [hml]; rfl) rfl (hb hby d3_1) (by decide) (W := 0) (by show 2 * 0 + _ ≤ _; exact Nat.le_of_eq rfl) (by decide)
  refine Fin.go st11 ?_
  show Fin _ p e below s _ _ _ T11 (mkF m 4 #[.val (.ref a), .val (.ref b), .val (.int (0 : Int32)), .val (.int (2 : Int32)), .val .null, .unset] [])
  refine Fin.go (fun _ k => XS.iloadN X11.here hx rfl (hb hby d3_4) rfl k) ?_
  show Fin _ p e below s _ _ _ T11 (mkF m 5 #[.val (.ref a), .val (.ref b), .val (.int (0 : Int32)), .val (.int (2 : Int32)), .val .null, .unset] [(.int (2 : Int32))])
  refine Fin.go (fun _ k => XS.ifYes X11.here hx rfl (pc0 := 5) (pc' := 27) rfl (hb hby d3_5) rfl (XT.i0_ne_t (by decide)) (by decide) (by decide) k) ?_
  show Fin _ p e below s _ _ _ T11 (mkF m 27 #[.val (.ref a), .val (.ref b), .val (.int (0 : Int32)), .val (.int (2 : Int32)), .val .null, .unset] [])
  obtain ⟨T12, X12, e12, st12⟩ := getS2 X11 hx hZ hown (host := "") (Or.inl (hw _ w_76)) Via.refl e11 (S_cs.ext O.2) (g := (mkF m 27 #[.val (.ref a), .val (.ref b), .val (.int (0 : Int32)), .val (.int (2 : Int32)), .val .null, .unset] [])) rfl (hb hby d3_27)
  refine Fin.go st12 ?_
  show Fin _ p e below s _ _ _ T12 (mkF m 30 #[.val (.ref a), .val (.ref b), .val (.int (0 : Int32)), .val (.int (2 : Int32)), .val .null, .unset] [(.int cs)])
  refine Fin.go (fun _ k => XS.ifNo X12.here hx rfl (hb hby d3_30) rfl (XT.i0_eq_f hcs) k) ?_
  show Fin _ p e below s _ _ _ T12 (mkF m 33 #[.val (.ref a), .val (.ref b), .val (.int (0 : Int32)), .val (.int (2 : Int32)), .val .null, .unset] [])
  refine Fin.go (fun _ k => XS.aloadN X12.here hx rfl (hb hby d3_33) rfl rfl k) ?_
  show Fin _ p e below s _ _ _ T12 (mkF m 34 #[.val (.ref a), .val (.ref b), .val (.int (0 : Int32)), .val (.int (2 : Int32)), .val .null, .unset] [(.ref b)])
  refine Fin.go (fun _ k => XS.iloadN X12.here hx rfl (hb hby d3_34) rfl k) ?_
  show Fin _ p e below s _ _ _ T12 (mkF m 35 #[.val (.ref a), .val (.ref b), .val (.int (0 : Int32)), .val (.int (2 : Int32)), .val .null, .unset] [(.int (0 : Int32)), (.ref b)])
  refine Fin.go (fun _ k => XS.iloadN X12.here hx rfl (hb hby d3_35) rfl k) ?_
  show Fin _ p e below s _ _ _ T12 (mkF m 36 #[.val (.ref a), .val (.ref b), .val (.int (0 : Int32)), .val (.int (2 : Int32)), .val .null, .unset] [(.int (2 : Int32)), (.int (0 : Int32)), (.ref b)])
  obtain ⟨v13, T13, L13, X13, q13, st13⟩ := callSt X12 hx hZ (y := (⟨"java/lang/StringUTF16", "compress", "([CII)[B"⟩ : MethodName)) hown (hw _ w_77) (hw _ w_78) (hw _ w_79) (hw _ w_80) (by decide) (W := 0) (rmCmpA2 l Z a0 hw n0 h0 O b kb x1 x2 VB hp1 hp2) e12 (by decide) (by decide) (by decide) (by decide) (g := (mkF m 36 #[.val (.ref a), .val (.ref b), .val (.int (0 : Int32)), .val (.int (2 : Int32)), .val .null, .unset] [(.int (2 : Int32)), (.int (0 : Int32)), (.ref b)])) rfl (by rw [hml]; rfl) (argsL := [(.ref b), (.int (0 : Int32)), (.int (2 : Int32))]) (rest := []) (lenOf pd_oACIIcAB rfl) rfl (by show 2 * 0 + _ ≤ _; exact Nat.le_of_eq rfl) (hb hby d3_36)
  obtain ⟨d13, kd13, rfl, Nq13, Kq13, V13, zd13⟩ := q13
  have N13 := Fr.app N0 Nq13
  have O13 := O.keep Kq13 all0
  have K13 := K0.trans Kq13 all0
  refine Fin.go st13 ?_
  show Fin _ p e below s _ _ _ T13 (mkF m 39 #[.val (.ref a), .val (.ref b), .val (.int (0 : Int32)), .val (.int (2 : Int32)), .val .null, .unset] [(.ref d13)])
  have nzd13 : n0 ≤ d13 := Nat.le_trans (by have := O.1; have := O.2.1; omega) zd13
  have hzd13 : h0.size ≤ d13 := Nat.le_trans K0.1 zd13
  refine Fin.go (fun _ k => XS.astore X13.here hx rfl (hb hby d3_39) rfl rfl (l' := #[.val (.ref a), .val (.ref b), .val (.int (0 : Int32)), .val (.int (2 : Int32)), .val .null, .val (.ref d13)]) rfl k) ?_
  show Fin _ p e below s _ _ _ T13 (mkF m 41 #[.val (.ref a), .val (.ref b), .val (.int (0 : Int32)), .val (.int (2 : Int32)), .val .null, .val (.ref d13)] [])
  refine Fin.go (fun _ k => XS.aloadN X13.here hx rfl (hb hby d3_41) rfl rfl k) ?_
  show Fin _ p e below s _ _ _ T13 (mkF m 42 #[.val (.ref a), .val (.ref b), .val (.int (0 : Int32)), .val (.int (2 : Int32)), .val .null, .val (.ref d13)] [(.ref a)])
  refine Fin.go (fun _ k => XS.aload X13.here hx rfl (hb hby d3_42) rfl rfl k) ?_
  show Fin _ p e below s _ _ _ T13 (mkF m 44 #[.val (.ref a), .val (.ref b), .val (.int (0 : Int32)), .val (.int (2 : Int32)), .val .null, .val (.ref d13)] [(.ref d13), (.ref a)])
  refine Fin.go (fun _ k => XS.iloadN X13.here hx rfl (hb hby d3_44) rfl k) ?_
  show Fin _ p e below s _ _ _ T13 (mkF m 45 #[.val (.ref a), .val (.ref b), .val (.int (0 : Int32)), .val (.int (2 : Int32)), .val .null, .val (.ref d13)] [(.int (2 : Int32)), (.ref d13), (.ref a)])
  obtain ⟨v14, T14, L14, X14, q14, st14⟩ := callSt X13 hx hZ (y := (⟨"java/lang/StringUTF16", "coderFromArrayLen", "([BI)B"⟩ : MethodName)) hown (hw _ w_84) (hw _ w_85) (hw _ w_79) (hw _ w_86) (by decide) (W := 1) (rmCod2 l Z a0 hw n0 T13.heap O13 d13 kd13 ((Int32.toInt8 x1).toInt32) ((Int32.toInt8 x2).toInt32) V13) (rfl : T13.heap = T13.heap) (by decide) (by decide) (by decide) (by decide) (g := (mkF m 45 #[.val (.ref a), .val (.ref b), .val (.int (0 : Int32)), .val (.int (2 : Int32)), .val .null, .val (.ref d13)] [(.int (2 : Int32)), (.ref d13), (.ref a)])) rfl (by rw [hml]; rfl) (argsL := [(.ref d13), (.int (2 : Int32))]) (rest := [(.ref a)]) (lenOf pd_oABIcB rfl) rfl (by show 2 * 0 + _ ≤ _; exact Nat.le_of_eq rfl) (hb hby d3_45)
  obtain ⟨rfl, e14, rfl⟩ := q14
  have N14 := Fr.app N13 (Fr.nil n0)
  refine Fin.go st14 ?_
  show Fin _ p e below s _ _ _ T14 (mkF m 48 #[.val (.ref a), .val (.ref b), .val (.int (0 : Int32)), .val (.int (2 : Int32)), .val .null, .val (.ref d13)] [(.int (0 : Int32)), (.ref a)])
  obtain ⟨T15, h15, X15, e15, W15, st15⟩ := putF X14 hx hZ hown (host := "") (Or.inl (hw _ w_33)) Via.refl e14 (F1.keep Kq13 nin0) (A.keep Kq13) (Or.inr ⟨(hw _ w_29), rfl, hnm⟩) (hw _ w_13) (ty := .byte) (by decide) rfl rfl (g := (mkF m 48 #[.val (.ref a), .val (.ref b), .val (.int (0 : Int32)), .val (.int (2 : Int32)), .val .null, .val (.ref d13)] [(.int (0 : Int32)), (.ref a)])) rfl rfl (hb hby d3_48)
  refine Fin.go st15 ?_
  have N15 := Fr.snoc X15 N14 na
  have O15 := O13.wr W15 na
  have K15 := K13.wr W15 (Or.inl (List.mem_of_getElem? (i := 0) rfl))
  have F15_a_value := ((F2.keep Kq13 nin0).other W15 (Or.inr (slot_ne (Or.inr (hw _ w_28)) (Or.inr (hw _ w_29)) (by decide) (t := (.array .byte)) (t' := .byte) (by decide) (by decide))))
  have V15_d13 := (V13.other W15 (Ne.symm (Nat.ne_of_lt (Nat.lt_of_lt_of_le F2.lt zd13))))
  show Fin _ p e below s _ _ _ T15 (mkF m 51 #[.val (.ref a), .val (.ref b), .val (.int (0 : Int32)), .val (.int (2 : Int32)), .val .null, .val (.ref d13)] [])
  refine Fin.go (fun _ k => XS.aloadN X15.here hx rfl (hb hby d3_51) rfl rfl k) ?_
  show Fin _ p e below s _ _ _ T15 (mkF m 52 #[.val (.ref a), .val (.ref b), .val (.int (0 : Int32)), .val (.int (2 : Int32)), .val .null, .val (.ref d13)] [(.ref a)])
  refine Fin.go (fun _ k => XS.aload X15.here hx rfl (hb hby d3_52) rfl rfl k) ?_
  show Fin _ p e below s _ _ _ T15 (mkF m 54 #[.val (.ref a), .val (.ref b), .val (.int (0 : Int32)), .val (.int (2 : Int32)), .val .null, .val (.ref d13)] [(.ref d13), (.ref a)])
  obtain ⟨T16, h16, X16, e16, W16, st16⟩ := putF X15 hx hZ hown (host := "") (Or.inl (hw _ w_32)) Via.refl e15 F15_a_value ((A.keep Kq13).wr W15) (Or.inr ⟨(hw _ w_28), rfl, hnm⟩) (hw _ w_13) (ty := (.array .byte)) (by decide) rfl rfl (g := (mkF m 54 #[.val (.ref a), .val (.ref b), .val (.int (0 : Int32)), .val (.int (2 : Int32)), .val .null, .val (.ref d13)] [(.ref d13), (.ref a)])) rfl rfl (hb hby d3_54)
  refine Fin.go st16 ?_
  have N16 := Fr.snoc X16 N15 na
  have O16 := O15.wr W16 na
  have K16 := K15.wr W16 (Or.inl (List.mem_of_getElem? (i := 0) rfl))
  have F16_a_coder := (((F1.keep Kq13 nin0).same W15).other W16 (Or.inr (slot_ne (Or.inr (hw _ w_29)) (Or.inr (hw _ w_28)) (by decide) (t := .byte) (t' := (.array .byte)) (by decide) (by decide))))
  have V16_d13 := (V15_d13.other W16 (Ne.symm (Nat.ne_of_lt (Nat.lt_of_lt_of_le F2.lt zd13))))
  show Fin _ p e below s _ _ _ T16 (mkF m 57 #[.val (.ref a), .val (.ref b), .val (.int (0 : Int32)), .val (.int (2 : Int32)), .val .null, .val (.ref d13)] [])
  exact Fin.leaveN X16 e16 hlk (v := none) (fun _ => rfl) (by decide) (by decide) ⟨rfl, N16, K16, (((A.keep Kq13).wr W15).wr W16), F16_a_coder, d13, kd13, (F15_a_value.same W16), V16_d13, hzd13⟩ (fun fs hr => X16.returnOut hx hret (hb hby d3_57) hr)
set_option maxRecDepth 65536 in
set_option maxHeartbeats 40000000 in
theorem rmStr2 (l : Launch) (Z : State) (a0 : Array Value) (hw : ∀ d ∈ tables_1, d.before a0 Z = true) (n0 : Nat) (h0 : Heap) (O : Old Z n0 h0) (a b : Addr) (kb : ClassId) (x1 x2 : Int32) (cs : Int32) (S_cs : Sta Z Z.heap "java/lang/String" "COMPACT_STRINGS" "Z" (.int cs)) (hcs : ¬ cs = 0) (VB : Arv Z h0 b kb .char (2 : Int32) [(.int x1), (.int x2)] (.int (0 : Int32))) (A : Exa Z h0 a "java/lang/String") (F1 : Fld Z h0 a "java/lang/String" "coder" "B" (.int (0 : Int32))) (F2 : Fld Z h0 a "java/lang/String" "value" "[B" .null) (hp1 : ¬ (255 : Int32) < x1) (hp2 : ¬ (255 : Int32) < x2) (na : n0 ≤ a) (nba : b ≠ a) :
    ConW FrameEnd l Z [] (⟨"java/lang/String", "<init>", "([C)V"⟩ : MethodName) jdk_42_method_3_code 2 none ({ frames := 3, cells := 1, slots := 2, locals := 52 } : Room) #[(.ref a), (.ref b)] h0 (fun v h L => v = none ∧ Fr n0 L ∧ Keep h0 h [a] ∧ Exa Z h a "java/lang/String" ∧ Fld Z h a "java/lang/String" "coder" "B" (.int (0 : Int32)) ∧ ∃ d kd, Fld Z h a "java/lang/String" "value" "[B" (.ref d) ∧ Arv Z h d kd .byte (2 : Int32) [(.int ((Int32.toInt8 x1).toInt32)), (.int ((Int32.toInt8 x2).toInt32))] (.int (0 : Int32)) ∧ h0.size ≤ d) := by
  refine conOf (plainFor_of_name pn_java_lang_String) ?_
  intro p e s m below mth cc s₁ X0 hx hby hml hown hnm hret hlk hZ e0
  have N0 := Fr.nil n0
  have K0 := Keep.refl h0 ([a] : List Addr)
  refine Fin.came (castTop (t := _) (by first | (simp [entryFrame, mkF, argsToLocals, Value.category]; done) | rfl) (Steps.refl _) : Steps p.tables e below (s₁.setTop (entryFrame m #[(.ref a), (.ref b)] 2)) (s₁.setTop (mkF m 0 #[.val (.ref a), .val (.ref b)] []))) ?_
  show Fin _ p e below s _ _ _ s₁ (mkF m 0 #[.val (.ref a), .val (.ref b)] [])
  refine Fin.go (fun _ k => XS.aloadN X0.here hx rfl (hb hby d2_0) rfl rfl k) ?_
  show Fin _ p e below s _ _ _ s₁ (mkF m 1 #[.val (.ref a), .val (.ref b)] [(.ref a)])
  refine Fin.go (fun _ k => XS.aloadN X0.here hx rfl (hb hby d2_1) rfl rfl k) ?_
  show Fin _ p e below s _ _ _ s₁ (mkF m 2 #[.val (.ref a), .val (.ref b)] [(.ref b), (.ref a)])
  refine Fin.go (fun _ k => XS.iconst X0.here hx rfl (hb hby d2_2) k) ?_
  show Fin _ p e below s _ _ _ s₁ (mkF m 3 #[.val (.ref a), .val (.ref b)] [(.int (0 : Int32)), (.ref b), (.ref a)])
  refine Fin.go (fun _ k => XS.aloadN X0.here hx rfl (hb hby d2_3) rfl rfl k) ?_
  show Fin _ p e below s _ _ _ s₁ (mkF m 4 #[.val (.ref a), .val (.ref b)] [(.ref b), (.int (0 : Int32)), (.ref b), (.ref a)])
  obtain ⟨c11, B11, q11, S11, M11, H11, G11⟩ := id VB
  refine Fin.go (fun _ k => X0.arraylength hx (by rw [e0]; exact B11.1) (State.isArrayOf_alike hZ.alike B11.2.1) (g := (mkF m 4 #[.val (.ref a), .val (.ref b)] [(.ref b), (.int (0 : Int32)), (.ref b), (.ref a)])) rfl rfl (hb hby d2_4) _ k) ?_
  rw [len_of S11 M11]
  show Fin _ p e below s _ _ _ s₁ (mkF m 5 #[.val (.ref a), .val (.ref b)] [(.int (2 : Int32)), (.int (0 : Int32)), (.ref b), (.ref a)])
  refine Fin.go (fun _ k => XS.aconstNull X0.here hx rfl (hb hby d2_5) k) ?_
  show Fin _ p e below s _ _ _ s₁ (mkF m 6 #[.val (.ref a), .val (.ref b)] [.null, (.int (2 : Int32)), (.int (0 : Int32)), (.ref b), (.ref a)])
  obtain ⟨v12, T12, L12, X12, q12, st12⟩ := callCt X0 hx hZ (y := (⟨"java/lang/String", "<init>", "([CIILjava/lang/Void;)V"⟩ : MethodName)) rfl hown (hw _ w_19) (hw _ w_20) (hw _ w_14) (hw _ w_22) (by decide) (W := 0) (rmStrV2 l Z a0 hw n0 h0 O a b kb x1 x2 cs S_cs hcs VB A F1 F2 hp1 hp2 na nba) e0 (by decide) (by decide) (by decide) (by decide) (g := (mkF m 6 #[.val (.ref a), .val (.ref b)] [.null, (.int (2 : Int32)), (.int (0 : Int32)), (.ref b), (.ref a)])) rfl (by rw [hml]; rfl) (a := a) (argsL := [(.ref b), (.int (0 : Int32)), (.int (2 : Int32)), .null]) (rest := []) (lenOf pd_oACIILjava_lang_Void_cV rfl) rfl (by show 2 * 0 + _ ≤ _; exact Nat.le_of_eq rfl) (hb hby d2_6)
  obtain ⟨rfl, Nq12, Kq12, A12, C12, d12, kd12, F12, V12, zd12⟩ := q12
  have N12 := Fr.app N0 Nq12
  have O12 := O.keep Kq12 (allS na all0)
  have K12 := K0.trans Kq12 (allS (Or.inl (List.mem_of_getElem? (i := 0) rfl)) all0)
  refine Fin.go st12 ?_
  show Fin _ p e below s _ _ _ T12 (mkF m 9 #[.val (.ref a), .val (.ref b)] [])
  exact Fin.leaveN X12 (rfl : T12.heap = T12.heap) hlk (v := none) (fun _ => rfl) (by decide) (by decide) ⟨rfl, N12, K12, A12, C12, d12, kd12, F12, V12, zd12⟩ (fun fs hr => X12.returnOut hx hret (hb hby d2_9) hr)
set_option maxRecDepth 65536 in
set_option maxHeartbeats 40000000 in
theorem rmStrV0 (l : Launch) (Z : State) (a0 : Array Value) (hw : ∀ d ∈ tables_1, d.before a0 Z = true) (n0 : Nat) (h0 : Heap) (O : Old Z n0 h0) (a b : Addr) (kb : ClassId) (VB : Arv Z h0 b kb .char (0 : Int32) [] (.int (0 : Int32))) (A : Exa Z h0 a "java/lang/String") (F1 : Fld Z h0 a "java/lang/String" "coder" "B" (.int (0 : Int32))) (F2 : Fld Z h0 a "java/lang/String" "value" "[B" .null) (na : n0 ≤ a) :
    ConHW l Z EL [] (⟨"java/lang/String", "<init>", "([CIILjava/lang/Void;)V"⟩ : MethodName) jdk_42_method_149_code 6 none ({ frames := 1, cells := 4, slots := 8, locals := 12 } : Room) #[(.ref a), (.ref b), (.int (0 : Int32)), (.int (0 : Int32)), .null] h0 (fun v h L => v = none ∧ Fr n0 L ∧ Keep h0 h [a] ∧ Exa Z h a "java/lang/String" ∧ Fld Z h a "java/lang/String" "coder" "B" (.int (0 : Int32)) ∧ ∃ d kd, Fld Z h a "java/lang/String" "value" "[B" (.ref d) ∧ Arv Z h d kd .byte (0 : Int32) [] (.int (0 : Int32))) := by
  refine conOfH (plainFor_of_name pn_java_lang_String) ?_
  intro p e s m below mth cc s₁ X0 hx hby hml hown hnm hret hlk hZ e0 hS RR0
  have N0 := Fr.nil n0
  have hEL := elW hw
  have K0 := Keep.refl h0 ([a] : List Addr)
  have sfa := safe_of_null (EL := EL) hZ.alike A F2
  refine Fin.came (castTop (t := _) (by first | (simp [entryFrame, mkF, argsToLocals, Value.category]; done) | rfl) (Steps.refl _) : Steps p.tables e below (s₁.setTop (entryFrame m #[(.ref a), (.ref b), (.int (0 : Int32)), (.int (0 : Int32)), .null] 6)) (s₁.setTop (mkF m 0 #[.val (.ref a), .val (.ref b), .val (.int (0 : Int32)), .val (.int (0 : Int32)), .val .null, .unset] []))) ?_
  show Fin _ p e below s _ _ _ s₁ (mkF m 0 #[.val (.ref a), .val (.ref b), .val (.int (0 : Int32)), .val (.int (0 : Int32)), .val .null, .unset] [])
  refine Fin.go (fun _ k => XS.aloadN X0.here hx rfl (hb hby d3_0) rfl rfl k) ?_
  show Fin _ p e below s _ _ _ s₁ (mkF m 1 #[.val (.ref a), .val (.ref b), .val (.int (0 : Int32)), .val (.int (0 : Int32)), .val .null, .unset] [(.ref a)])
  obtain ⟨T11, X11, e11, st11⟩ := initO X0 hx hZ hown (hw _ w_23) (hw _ w_24) (hw _ w_25) e0 (g := (mkF m 1 #[.val (.ref a), .val (.ref b), .val (.int (0 : Int32)), .val (.int (0 : Int32)), .val .null, .unset] [(.ref a)])) rfl (by rw [hml]; rfl) rfl (hb hby d3_1) (by decide) (W := 0) (by show 2 * 0 + _ ≤ _; exact Nat.le_of_eq rfl) (by decide)
  refine Fin.go st11 ?_
  show Fin _ p e below s _ _ _ T11 (mkF m 4 #[.val (.ref a), .val (.ref b), .val (.int (0 : Int32)), .val (.int (0 : Int32)), .val .null, .unset] [])
  refine Fin.go (fun _ k => XS.iloadN X11.here hx rfl (hb hby d3_4) rfl k) ?_
  show Fin _ p e below s _ _ _ T11 (mkF m 5 #[.val (.ref a), .val (.ref b), .val (.int (0 : Int32)), .val (.int (0 : Int32)), .val .null, .unset] [(.int (0 : Int32))])
  refine Fin.go (fun _ k => XS.ifNo X11.here hx rfl (hb hby d3_5) rfl (XT.i0_ne_f (by decide)) k) ?_
  show Fin _ p e below s _ _ _ T11 (mkF m 8 #[.val (.ref a), .val (.ref b), .val (.int (0 : Int32)), .val (.int (0 : Int32)), .val .null, .unset] [])
  refine Fin.go (fun _ k => XS.aloadN X11.here hx rfl (hb hby d3_8) rfl rfl k) ?_
  show Fin _ p e below s _ _ _ T11 (mkF m 9 #[.val (.ref a), .val (.ref b), .val (.int (0 : Int32)), .val (.int (0 : Int32)), .val .null, .unset] [(.ref a)])
  obtain ⟨a12, T12, h12, k12, b12, kb12, X12, e12, E12, hS12, hj12, hZ12, hown12, A12, C12, F12, V12, l112, l212, RC12, lt12, ns12, st12⟩ := ldcCH X11 hx hZ hown (hw _ w_26) (strW hw) e11 hS (Nat.zero_le _) hEL (by decide) RR0.1 (vs := []) (z := (0 : Int32)) (by decide +kernel) (by decide) (by decide) (g := (mkF m 9 #[.val (.ref a), .val (.ref b), .val (.int (0 : Int32)), .val (.int (0 : Int32)), .val .null, .unset] [(.ref a)])) rfl (hb hby d3_9) (n := 0) (by decide) (by decide) (by decide) (by decide)
  refine Fin.go st12 ?_
  have O12 := O.ext E12
  have K12 := K0.ext E12
  have RR12 := RR0.trans RC12
  show Fin _ p e below s _ _ _ T12 (mkF m 11 #[.val (.ref a), .val (.ref b), .val (.int (0 : Int32)), .val (.int (0 : Int32)), .val .null, .unset] [(.ref a12), (.ref a)])
  obtain ⟨T13, X13, e13, st13⟩ := getF X12 hx hZ12 hown12 (host := "") (Or.inl (hw _ w_32)) Via.refl e12 F12 (g := (mkF m 11 #[.val (.ref a), .val (.ref b), .val (.int (0 : Int32)), .val (.int (0 : Int32)), .val .null, .unset] [(.ref a12), (.ref a)])) rfl rfl (hb hby d3_11)
  refine Fin.go st13 ?_
  show Fin _ p e below s _ _ _ T13 (mkF m 14 #[.val (.ref a), .val (.ref b), .val (.int (0 : Int32)), .val (.int (0 : Int32)), .val .null, .unset] [(.ref b12), (.ref a)])
  obtain ⟨T14, h14, X14, e14, W14, st14⟩ := putF X13 hx hZ12 hown12 (host := "") (Or.inl (hw _ w_32)) Via.refl e13 (F2.ext E12) (A.ext E12) (Or.inr ⟨(hw _ w_28), rfl, hnm⟩) (hw _ w_13) (ty := (.array .byte)) (by decide) rfl rfl (g := (mkF m 14 #[.val (.ref a), .val (.ref b), .val (.int (0 : Int32)), .val (.int (0 : Int32)), .val .null, .unset] [(.ref b12), (.ref a)])) rfl rfl (hb hby d3_14)
  refine Fin.go st14 ?_
  have N14 := Fr.snoc X14 N0 na
  have O14 := O12.wr W14 na
  have K14 := K12.wr W14 (Or.inl (List.mem_of_getElem? (i := 0) rfl))
  have hk14 := Nat.le_trans hj12 (Keep.of_wr W14).1
  have RR14 := RR12.trans (CHr.wr W14 (CHr.safe RC12 A.lt sfa) RR12.1)
  have F14_a_coder := ((F1.ext E12).other W14 (Or.inr (slot_ne (Or.inr (hw _ w_29)) (Or.inr (hw _ w_28)) (by decide) (t := .byte) (t' := (.array .byte)) (by decide) (by decide))))
  have sf14_a := (Safe.wr W14 (CHr.safe RC12 A.lt sfa) RR12.1 (CHr.safe RC12 A.lt sfa))
  have F14_a12_coder := (C12.other W14 (Or.inl (Ne.symm (ns12 _ (CHr.safe RC12 A.lt sfa)).1)))
  have F14_a12_value := (F12.other W14 (Or.inl (Ne.symm (ns12 _ (CHr.safe RC12 A.lt sfa)).1)))
  have V14_b12 := (V12.other W14 (Ne.symm (ns12 _ (CHr.safe RC12 A.lt sfa)).2))
  show Fin _ p e below s _ _ _ T14 (mkF m 17 #[.val (.ref a), .val (.ref b), .val (.int (0 : Int32)), .val (.int (0 : Int32)), .val .null, .unset] [])
  refine Fin.go (fun _ k => XS.aloadN X14.here hx rfl (hb hby d3_17) rfl rfl k) ?_
  show Fin _ p e below s _ _ _ T14 (mkF m 18 #[.val (.ref a), .val (.ref b), .val (.int (0 : Int32)), .val (.int (0 : Int32)), .val .null, .unset] [(.ref a)])
  obtain ⟨a15, T15, h15, k15, b15, kb15, X15, e15, E15, hS15, hj15, hZ15, hown15, A15, C15, F15, V15, l115, l215, RC15, lt15, ns15, st15⟩ := ldcCH X14 hx hZ12 hown12 (hw _ w_26) (strW hw) e14 hS12 hk14 hEL (by decide) RR14.1 (vs := []) (z := (0 : Int32)) (by decide +kernel) (by decide) (by decide) (g := (mkF m 18 #[.val (.ref a), .val (.ref b), .val (.int (0 : Int32)), .val (.int (0 : Int32)), .val .null, .unset] [(.ref a)])) rfl (hb hby d3_18) (n := 0) (by decide) (by decide) (by decide) (by decide)
  refine Fin.go st15 ?_
  have O15 := O14.ext E15
  have K15 := K14.ext E15
  have RR15 := RR14.trans RC15
  show Fin _ p e below s _ _ _ T15 (mkF m 20 #[.val (.ref a), .val (.ref b), .val (.int (0 : Int32)), .val (.int (0 : Int32)), .val .null, .unset] [(.ref a15), (.ref a)])
  obtain ⟨T16, X16, e16, st16⟩ := getF X15 hx hZ15 hown15 (host := "") (Or.inl (hw _ w_33)) Via.refl e15 C15 (g := (mkF m 20 #[.val (.ref a), .val (.ref b), .val (.int (0 : Int32)), .val (.int (0 : Int32)), .val .null, .unset] [(.ref a15), (.ref a)])) rfl rfl (hb hby d3_20)
  refine Fin.go st16 ?_
  show Fin _ p e below s _ _ _ T16 (mkF m 23 #[.val (.ref a), .val (.ref b), .val (.int (0 : Int32)), .val (.int (0 : Int32)), .val .null, .unset] [(.int (0 : Int32)), (.ref a)])
  obtain ⟨T17, h17, X17, e17, W17, st17⟩ := putF X16 hx hZ15 hown15 (host := "") (Or.inl (hw _ w_33)) Via.refl e16 (F14_a_coder.ext E15) (((A.ext E12).wr W14).ext E15) (Or.inr ⟨(hw _ w_29), rfl, hnm⟩) (hw _ w_13) (ty := .byte) (by decide) rfl rfl (g := (mkF m 23 #[.val (.ref a), .val (.ref b), .val (.int (0 : Int32)), .val (.int (0 : Int32)), .val .null, .unset] [(.int (0 : Int32)), (.ref a)])) rfl rfl (hb hby d3_23)
  refine Fin.go st17 ?_
  have N17 := Fr.snoc X17 N14 na
  have O17 := O15.wr W17 na
  have K17 := K15.wr W17 (Or.inl (List.mem_of_getElem? (i := 0) rfl))
  have hk17 := Nat.le_trans hj15 (Keep.of_wr W17).1
  have RR17 := RR15.trans (CHr.wr W17 (CHr.safe RC15 ((A.ext E12).wr W14).lt sf14_a) RR15.1)
  have F17_a_value := ((((F2.ext E12).same W14).ext E15).other W17 (Or.inr (slot_ne (Or.inr (hw _ w_28)) (Or.inr (hw _ w_29)) (by decide) (t := (.array .byte)) (t' := .byte) (by decide) (by decide))))
  have sf17_a := (Safe.wr W17 (CHr.safe RC15 ((A.ext E12).wr W14).lt sf14_a) RR15.1 (CHr.safe RC15 ((A.ext E12).wr W14).lt sf14_a))
  have F17_a12_coder := ((F14_a12_coder.ext E15).other W17 (Or.inl (Ne.symm (ns12 _ (CHr.safe RC12 A.lt sfa)).1)))
  have F17_a12_value := ((F14_a12_value.ext E15).other W17 (Or.inl (Ne.symm (ns12 _ (CHr.safe RC12 A.lt sfa)).1)))
  have V17_b12 := ((V14_b12.ext E15).other W17 (Ne.symm (ns12 _ (CHr.safe RC12 A.lt sfa)).2))
  have F17_a15_coder := (C15.other W17 (Or.inl (Ne.symm (ns15 _ (CHr.safe RC15 ((A.ext E12).wr W14).lt sf14_a)).1)))
  have F17_a15_value := (F15.other W17 (Or.inl (Ne.symm (ns15 _ (CHr.safe RC15 ((A.ext E12).wr W14).lt sf14_a)).1)))
  have V17_b15 := (V15.other W17 (Ne.symm (ns15 _ (CHr.safe RC15 ((A.ext E12).wr W14).lt sf14_a)).2))
  show Fin _ p e below s _ _ _ T17 (mkF m 26 #[.val (.ref a), .val (.ref b), .val (.int (0 : Int32)), .val (.int (0 : Int32)), .val .null, .unset] [])
  exact Fin.leaveH X17 hS15 hk17 hZ15 hEL e17 RR17 hlk (v := none) (fun _ => rfl) (by decide) (by decide) ⟨rfl, N17, K17, ((((A.ext E12).wr W14).ext E15).wr W17), ((F14_a_coder.ext E15).same W17), b12, kb12, F17_a_value, V17_b12⟩ (fun fs hr => X17.returnOut hx hret (hb hby d3_26) hr)
set_option maxRecDepth 65536 in
set_option maxHeartbeats 40000000 in
theorem rmStr0 (l : Launch) (Z : State) (a0 : Array Value) (hw : ∀ d ∈ tables_1, d.before a0 Z = true) (n0 : Nat) (h0 : Heap) (O : Old Z n0 h0) (a b : Addr) (kb : ClassId) (VB : Arv Z h0 b kb .char (0 : Int32) [] (.int (0 : Int32))) (A : Exa Z h0 a "java/lang/String") (F1 : Fld Z h0 a "java/lang/String" "coder" "B" (.int (0 : Int32))) (F2 : Fld Z h0 a "java/lang/String" "value" "[B" .null) (na : n0 ≤ a) :
    ConHW l Z EL [] (⟨"java/lang/String", "<init>", "([C)V"⟩ : MethodName) jdk_42_method_3_code 2 none ({ frames := 2, cells := 4, slots := 8, locals := 29 } : Room) #[(.ref a), (.ref b)] h0 (fun v h L => v = none ∧ Fr n0 L ∧ Keep h0 h [a] ∧ Exa Z h a "java/lang/String" ∧ Fld Z h a "java/lang/String" "coder" "B" (.int (0 : Int32)) ∧ ∃ d kd, Fld Z h a "java/lang/String" "value" "[B" (.ref d) ∧ Arv Z h d kd .byte (0 : Int32) [] (.int (0 : Int32))) := by
  refine conOfH (plainFor_of_name pn_java_lang_String) ?_
  intro p e s m below mth cc s₁ X0 hx hby hml hown hnm hret hlk hZ e0 hS RR0
  have N0 := Fr.nil n0
  have hEL := elW hw
  have K0 := Keep.refl h0 ([a] : List Addr)
  have sfa := safe_of_null (EL := EL) hZ.alike A F2
  refine Fin.came (castTop (t := _) (by first | (simp [entryFrame, mkF, argsToLocals, Value.category]; done) | rfl) (Steps.refl _) : Steps p.tables e below (s₁.setTop (entryFrame m #[(.ref a), (.ref b)] 2)) (s₁.setTop (mkF m 0 #[.val (.ref a), .val (.ref b)] []))) ?_
  show Fin _ p e below s _ _ _ s₁ (mkF m 0 #[.val (.ref a), .val (.ref b)] [])
  refine Fin.go (fun _ k => XS.aloadN X0.here hx rfl (hb hby d2_0) rfl rfl k) ?_
  show Fin _ p e below s _ _ _ s₁ (mkF m 1 #[.val (.ref a), .val (.ref b)] [(.ref a)])
  refine Fin.go (fun _ k => XS.aloadN X0.here hx rfl (hb hby d2_1) rfl rfl k) ?_
  show Fin _ p e below s _ _ _ s₁ (mkF m 2 #[.val (.ref a), .val (.ref b)] [(.ref b), (.ref a)])
  refine Fin.go (fun _ k => XS.iconst X0.here hx rfl (hb hby d2_2) k) ?_
  show Fin _ p e below s _ _ _ s₁ (mkF m 3 #[.val (.ref a), .val (.ref b)] [(.int (0 : Int32)), (.ref b), (.ref a)])
  refine Fin.go (fun _ k => XS.aloadN X0.here hx rfl (hb hby d2_3) rfl rfl k) ?_
  show Fin _ p e below s _ _ _ s₁ (mkF m 4 #[.val (.ref a), .val (.ref b)] [(.ref b), (.int (0 : Int32)), (.ref b), (.ref a)])
  obtain ⟨c11, B11, q11, S11, M11, H11, G11⟩ := id VB
  refine Fin.go (fun _ k => X0.arraylength hx (by rw [e0]; exact B11.1) (State.isArrayOf_alike hZ.alike B11.2.1) (g := (mkF m 4 #[.val (.ref a), .val (.ref b)] [(.ref b), (.int (0 : Int32)), (.ref b), (.ref a)])) rfl rfl (hb hby d2_4) _ k) ?_
  rw [len_of S11 M11]
  show Fin _ p e below s _ _ _ s₁ (mkF m 5 #[.val (.ref a), .val (.ref b)] [(.int (0 : Int32)), (.int (0 : Int32)), (.ref b), (.ref a)])
  refine Fin.go (fun _ k => XS.aconstNull X0.here hx rfl (hb hby d2_5) k) ?_
  show Fin _ p e below s _ _ _ s₁ (mkF m 6 #[.val (.ref a), .val (.ref b)] [.null, (.int (0 : Int32)), (.int (0 : Int32)), (.ref b), (.ref a)])
  obtain ⟨v12, T12, L12, X12, hS12, hZ12, hown12, RC12, q12, st12⟩ := callCtH X0 hx hZ (y := (⟨"java/lang/String", "<init>", "([CIILjava/lang/Void;)V"⟩ : MethodName)) rfl hown (hw _ w_19) (hw _ w_20) (hw _ w_14) (hw _ w_22) (by decide) (W := 0) (rmStrV0 l Z a0 hw n0 h0 O a b kb VB A F1 F2 na) e0 hS (Nat.zero_le _) hEL RR0.1 (by decide) (by decide) (by decide) (by decide) (g := (mkF m 6 #[.val (.ref a), .val (.ref b)] [.null, (.int (0 : Int32)), (.int (0 : Int32)), (.ref b), (.ref a)])) rfl (by rw [hml]; rfl) (a := a) (argsL := [(.ref b), (.int (0 : Int32)), (.int (0 : Int32)), .null]) (rest := []) (lenOf pd_oACIILjava_lang_Void_cV rfl) rfl (by show 2 * 0 + _ ≤ _; exact Nat.le_of_eq rfl) (hb hby d2_6)
  obtain ⟨rfl, Nq12, Kq12, A12, C12, d12, kd12, F12, V12⟩ := q12
  have N12 := Fr.app N0 Nq12
  have O12 := O.keep Kq12 (allS na all0)
  have K12 := K0.trans Kq12 (allS (Or.inl (List.mem_of_getElem? (i := 0) rfl)) all0)
  have RR12 := RR0.trans RC12
  refine Fin.go st12 ?_
  show Fin _ p e below s _ _ _ T12 (mkF m 9 #[.val (.ref a), .val (.ref b)] [])
  exact Fin.leaveH X12 hS12 (Nat.le_refl T12.heap.size) hZ12 hEL (rfl : T12.heap = T12.heap) RR12 hlk (v := none) (fun _ => rfl) (by decide) (by decide) ⟨rfl, N12, K12, A12, C12, d12, kd12, F12, V12⟩ (fun fs hr => X12.returnOut hx hret (hb hby d2_9) hr)
set_option maxRecDepth 65536 in
set_option maxHeartbeats 40000000 in
theorem rmPick (l : Launch) (Z : State) (a0 : Array Value) (hw : ∀ d ∈ tables_1, d.before a0 Z = true) (n0 : Nat) (h0 : Heap) (O : Old Z n0 h0) (x : Int32) (aS aI aT aD aR aU : Addr) (S_aS : Sta Z Z.heap "com/example/grantwell/grantwell/catalog/Privilege" "SELECT" "Lcom/example/grantwell/grantwell/catalog/Privilege;" (.ref aS)) (S_aI : Sta Z Z.heap "com/example/grantwell/grantwell/catalog/Privilege" "INSERT" "Lcom/example/grantwell/grantwell/catalog/Privilege;" (.ref aI)) (S_aT : Sta Z Z.heap "com/example/grantwell/grantwell/catalog/Privilege" "UPDATE" "Lcom/example/grantwell/grantwell/catalog/Privilege;" (.ref aT)) (S_aD : Sta Z Z.heap "com/example/grantwell/grantwell/catalog/Privilege" "DELETE" "Lcom/example/grantwell/grantwell/catalog/Privilege;" (.ref aD)) (S_aR : Sta Z Z.heap "com/example/grantwell/grantwell/catalog/Privilege" "REFERENCES" "Lcom/example/grantwell/grantwell/catalog/Privilege;" (.ref aR)) (S_aU : Sta Z Z.heap "com/example/grantwell/grantwell/catalog/Privilege" "USAGE" "Lcom/example/grantwell/grantwell/catalog/Privilege;" (.ref aU)) (A_aS : Exa Z Z.heap aS "com/example/grantwell/grantwell/catalog/Privilege") (F_aS : Fld Z Z.heap aS "com/example/grantwell/grantwell/catalog/Privilege" "onColumns" "Z" (.int (1 : Int32))) (A_aI : Exa Z Z.heap aI "com/example/grantwell/grantwell/catalog/Privilege") (F_aI : Fld Z Z.heap aI "com/example/grantwell/grantwell/catalog/Privilege" "onColumns" "Z" (.int (1 : Int32))) (A_aT : Exa Z Z.heap aT "com/example/grantwell/grantwell/catalog/Privilege") (F_aT : Fld Z Z.heap aT "com/example/grantwell/grantwell/catalog/Privilege" "onColumns" "Z" (.int (1 : Int32))) (A_aR : Exa Z Z.heap aR "com/example/grantwell/grantwell/catalog/Privilege") (F_aR : Fld Z Z.heap aR "com/example/grantwell/grantwell/catalog/Privilege" "onColumns" "Z" (.int (1 : Int32))) (naSD : aS ≠ aD) (naSU : aS ≠ aU) (naID : aI ≠ aD) (naIU : aI ≠ aU) (naTD : aT ≠ aD) (naTU : aT ≠ aU) (naRD : aR ≠ aD) (naRU : aR ≠ aU) :
    ConW FrameEnd l Z [] (⟨"com/example/grantwell/grantwell/catalog/ActionIsOnColumnPinLaw", "pick", "(I)Lcom/example/grantwell/grantwell/catalog/Privilege;"⟩ : MethodName) method_2_code 2 (some (.object "com/example/grantwell/grantwell/catalog/Privilege")) ({ frames := 0, cells := 0, slots := 0, locals := 0 } : Room) #[(.int x)] h0 (fun v h L => ∃ a, v = some (.ref a) ∧ h = h0 ∧ L = [] ∧ ((a ≠ aD ∧ a ≠ aU ∧ Exa Z Z.heap a "com/example/grantwell/grantwell/catalog/Privilege" ∧ Fld Z Z.heap a "com/example/grantwell/grantwell/catalog/Privilege" "onColumns" "Z" (.int (1 : Int32))) ∨ aD = a ∨ aU = a)) := by
  refine conOf (plainFor_of_name pn_com_example_grantwell_grantwell_catalog_ActionIsOnColumnPinLaw) ?_
  intro p e s m below mth cc s₁ X0 hx hby hml hown hnm hret hlk hZ e0
  have N0 := Fr.nil n0
  refine Fin.came (castTop (t := _) (by first | (simp [entryFrame, mkF, argsToLocals, Value.category]; done) | rfl) (Steps.refl _) : Steps p.tables e below (s₁.setTop (entryFrame m #[(.int x)] 2)) (s₁.setTop (mkF m 0 #[.val (.int x), .unset] []))) ?_
  show Fin _ p e below s _ _ _ s₁ (mkF m 0 #[.val (.int x), .unset] [])
  refine Fin.go (fun _ k => XS.iloadN X0.here hx rfl (hb hby d1_0) rfl k) ?_
  show Fin _ p e below s _ _ _ s₁ (mkF m 1 #[.val (.int x), .unset] [(.int x)])
  refine Fin.go (fun _ k => X0.ldcI hx hown (mvT hZ (hw _ w_4)) rfl (hb hby d1_1) k) ?_
  show Fin _ p e below s _ _ _ s₁ (mkF m 3 #[.val (.int x), .unset] [(.int (2147483647 : Int32)), (.int x)])
  refine Fin.go (fun _ k => XS.iand X0.here hx rfl (hb hby d1_3) rfl k) ?_
  show Fin _ p e below s _ _ _ s₁ (mkF m 4 #[.val (.int x), .unset] [(.int (x &&& (2147483647 : Int32)))])
  refine Fin.go (fun _ k => XS.bipush X0.here hx rfl (hb hby d1_4) k) ?_
  show Fin _ p e below s _ _ _ s₁ (mkF m 6 #[.val (.int x), .unset] [(.int (6 : Int32)), (.int (x &&& (2147483647 : Int32)))])
  refine Fin.go (fun _ k => iremM X0 hx rfl (hb hby d1_6) rfl (by decide) k) ?_
  show Fin _ p e below s _ _ _ s₁ (mkF m 7 #[.val (.int x), .unset] [(.int ((x &&& (2147483647 : Int32)) % (6 : Int32)))])
  refine Fin.go (fun _ k => XS.istoreN X0.here hx rfl (hb hby d1_7) rfl (l' := #[.val (.int x), .val (.int ((x &&& (2147483647 : Int32)) % (6 : Int32)))]) rfl k) ?_
  show Fin _ p e below s _ _ _ s₁ (mkF m 8 #[.val (.int x), .val (.int ((x &&& (2147483647 : Int32)) % (6 : Int32)))] [])
  refine Fin.go (fun _ k => XS.iloadN X0.here hx rfl (hb hby d1_8) rfl k) ?_
  show Fin _ p e below s _ _ _ s₁ (mkF m 9 #[.val (.int x), .val (.int ((x &&& (2147483647 : Int32)) % (6 : Int32)))] [(.int ((x &&& (2147483647 : Int32)) % (6 : Int32)))])
  by_cases c9 : ((x &&& (2147483647 : Int32)) % (6 : Int32)) = 0
  · refine Fin.go (fun _ k => XS.ifNo X0.here hx rfl (hb hby d1_9) rfl (XT.i0_ne_f c9) k) ?_
    show Fin _ p e below s _ _ _ s₁ (mkF m 12 #[.val (.int x), .val (.int ((x &&& (2147483647 : Int32)) % (6 : Int32)))] [])
    obtain ⟨T11, X11, e11, st11⟩ := getS2 X0 hx hZ hown (host := "") (Or.inl (hw _ w_5)) Via.refl e0 (S_aS.ext O.2) (g := (mkF m 12 #[.val (.int x), .val (.int ((x &&& (2147483647 : Int32)) % (6 : Int32)))] [])) rfl (hb hby d1_12)
    refine Fin.go st11 ?_
    show Fin _ p e below s _ _ _ T11 (mkF m 15 #[.val (.int x), .val (.int ((x &&& (2147483647 : Int32)) % (6 : Int32)))] [(.ref aS)])
    exact Fin.leaveN X11 e11 hlk (v := some (.ref aS)) (fun h => by rw [hret] at h; cases h) (by decide) (by decide) ⟨aS, rfl, rfl, rfl, Or.inl ⟨naSD, naSU, A_aS, F_aS⟩⟩ (fun fs hr => retOut X11 hx hret rfl (Or.inr (Or.inr (Or.inr (Or.inr ⟨rfl, rfl, rfl⟩)))) (hb hby d1_15) hr)
  · refine Fin.go (fun _ k => XS.ifYes X0.here hx rfl (pc0 := 9) (pc' := 16) rfl (hb hby d1_9) rfl (XT.i0_ne_t c9) (by decide) (by decide) k) ?_
    show Fin _ p e below s _ _ _ s₁ (mkF m 16 #[.val (.int x), .val (.int ((x &&& (2147483647 : Int32)) % (6 : Int32)))] [])
    refine Fin.go (fun _ k => XS.iloadN X0.here hx rfl (hb hby d1_16) rfl k) ?_
    show Fin _ p e below s _ _ _ s₁ (mkF m 17 #[.val (.int x), .val (.int ((x &&& (2147483647 : Int32)) % (6 : Int32)))] [(.int ((x &&& (2147483647 : Int32)) % (6 : Int32)))])
    refine Fin.go (fun _ k => XS.iconst X0.here hx rfl (hb hby d1_17) k) ?_
    show Fin _ p e below s _ _ _ s₁ (mkF m 18 #[.val (.int x), .val (.int ((x &&& (2147483647 : Int32)) % (6 : Int32)))] [(.int (1 : Int32)), (.int ((x &&& (2147483647 : Int32)) % (6 : Int32)))])
    by_cases c18 : ((x &&& (2147483647 : Int32)) % (6 : Int32)) = (1 : Int32)
    · refine Fin.go (fun _ k => XS.icmpNo X0.here hx rfl (hb hby d1_18) rfl (XT.ii_ne_f c18) k) ?_
      show Fin _ p e below s _ _ _ s₁ (mkF m 21 #[.val (.int x), .val (.int ((x &&& (2147483647 : Int32)) % (6 : Int32)))] [])
      obtain ⟨T12, X12, e12, st12⟩ := getS2 X0 hx hZ hown (host := "") (Or.inl (hw _ w_72)) Via.refl e0 (S_aI.ext O.2) (g := (mkF m 21 #[.val (.int x), .val (.int ((x &&& (2147483647 : Int32)) % (6 : Int32)))] [])) rfl (hb hby d1_21)
      refine Fin.go st12 ?_
      show Fin _ p e below s _ _ _ T12 (mkF m 24 #[.val (.int x), .val (.int ((x &&& (2147483647 : Int32)) % (6 : Int32)))] [(.ref aI)])
      exact Fin.leaveN X12 e12 hlk (v := some (.ref aI)) (fun h => by rw [hret] at h; cases h) (by decide) (by decide) ⟨aI, rfl, rfl, rfl, Or.inl ⟨naID, naIU, A_aI, F_aI⟩⟩ (fun fs hr => retOut X12 hx hret rfl (Or.inr (Or.inr (Or.inr (Or.inr ⟨rfl, rfl, rfl⟩)))) (hb hby d1_24) hr)
    · refine Fin.go (fun _ k => XS.icmpYes X0.here hx rfl (pc0 := 18) (pc' := 25) rfl (hb hby d1_18) rfl (XT.ii_ne_t c18) (by decide) (by decide) k) ?_
      show Fin _ p e below s _ _ _ s₁ (mkF m 25 #[.val (.int x), .val (.int ((x &&& (2147483647 : Int32)) % (6 : Int32)))] [])
      refine Fin.go (fun _ k => XS.iloadN X0.here hx rfl (hb hby d1_25) rfl k) ?_
      show Fin _ p e below s _ _ _ s₁ (mkF m 26 #[.val (.int x), .val (.int ((x &&& (2147483647 : Int32)) % (6 : Int32)))] [(.int ((x &&& (2147483647 : Int32)) % (6 : Int32)))])
      refine Fin.go (fun _ k => XS.iconst X0.here hx rfl (hb hby d1_26) k) ?_
      show Fin _ p e below s _ _ _ s₁ (mkF m 27 #[.val (.int x), .val (.int ((x &&& (2147483647 : Int32)) % (6 : Int32)))] [(.int (2 : Int32)), (.int ((x &&& (2147483647 : Int32)) % (6 : Int32)))])
      by_cases c27 : ((x &&& (2147483647 : Int32)) % (6 : Int32)) = (2 : Int32)
      · refine Fin.go (fun _ k => XS.icmpNo X0.here hx rfl (hb hby d1_27) rfl (XT.ii_ne_f c27) k) ?_
        show Fin _ p e below s _ _ _ s₁ (mkF m 30 #[.val (.int x), .val (.int ((x &&& (2147483647 : Int32)) % (6 : Int32)))] [])
        obtain ⟨T13, X13, e13, st13⟩ := getS2 X0 hx hZ hown (host := "") (Or.inl (hw _ w_87)) Via.refl e0 (S_aT.ext O.2) (g := (mkF m 30 #[.val (.int x), .val (.int ((x &&& (2147483647 : Int32)) % (6 : Int32)))] [])) rfl (hb hby d1_30)
        refine Fin.go st13 ?_
        show Fin _ p e below s _ _ _ T13 (mkF m 33 #[.val (.int x), .val (.int ((x &&& (2147483647 : Int32)) % (6 : Int32)))] [(.ref aT)])
        exact Fin.leaveN X13 e13 hlk (v := some (.ref aT)) (fun h => by rw [hret] at h; cases h) (by decide) (by decide) ⟨aT, rfl, rfl, rfl, Or.inl ⟨naTD, naTU, A_aT, F_aT⟩⟩ (fun fs hr => retOut X13 hx hret rfl (Or.inr (Or.inr (Or.inr (Or.inr ⟨rfl, rfl, rfl⟩)))) (hb hby d1_33) hr)
      · refine Fin.go (fun _ k => XS.icmpYes X0.here hx rfl (pc0 := 27) (pc' := 34) rfl (hb hby d1_27) rfl (XT.ii_ne_t c27) (by decide) (by decide) k) ?_
        show Fin _ p e below s _ _ _ s₁ (mkF m 34 #[.val (.int x), .val (.int ((x &&& (2147483647 : Int32)) % (6 : Int32)))] [])
        refine Fin.go (fun _ k => XS.iloadN X0.here hx rfl (hb hby d1_34) rfl k) ?_
        show Fin _ p e below s _ _ _ s₁ (mkF m 35 #[.val (.int x), .val (.int ((x &&& (2147483647 : Int32)) % (6 : Int32)))] [(.int ((x &&& (2147483647 : Int32)) % (6 : Int32)))])
        refine Fin.go (fun _ k => XS.iconst X0.here hx rfl (hb hby d1_35) k) ?_
        show Fin _ p e below s _ _ _ s₁ (mkF m 36 #[.val (.int x), .val (.int ((x &&& (2147483647 : Int32)) % (6 : Int32)))] [(.int (3 : Int32)), (.int ((x &&& (2147483647 : Int32)) % (6 : Int32)))])
        by_cases c36 : ((x &&& (2147483647 : Int32)) % (6 : Int32)) = (3 : Int32)
        · refine Fin.go (fun _ k => XS.icmpNo X0.here hx rfl (hb hby d1_36) rfl (XT.ii_ne_f c36) k) ?_
          show Fin _ p e below s _ _ _ s₁ (mkF m 39 #[.val (.int x), .val (.int ((x &&& (2147483647 : Int32)) % (6 : Int32)))] [])
          obtain ⟨T14, X14, e14, st14⟩ := getS2 X0 hx hZ hown (host := "") (Or.inl (hw _ w_8)) Via.refl e0 (S_aD.ext O.2) (g := (mkF m 39 #[.val (.int x), .val (.int ((x &&& (2147483647 : Int32)) % (6 : Int32)))] [])) rfl (hb hby d1_39)
          refine Fin.go st14 ?_
          show Fin _ p e below s _ _ _ T14 (mkF m 42 #[.val (.int x), .val (.int ((x &&& (2147483647 : Int32)) % (6 : Int32)))] [(.ref aD)])
          exact Fin.leaveN X14 e14 hlk (v := some (.ref aD)) (fun h => by rw [hret] at h; cases h) (by decide) (by decide) ⟨aD, rfl, rfl, rfl, Or.inr (Or.inl rfl)⟩ (fun fs hr => retOut X14 hx hret rfl (Or.inr (Or.inr (Or.inr (Or.inr ⟨rfl, rfl, rfl⟩)))) (hb hby d1_42) hr)
        · refine Fin.go (fun _ k => XS.icmpYes X0.here hx rfl (pc0 := 36) (pc' := 43) rfl (hb hby d1_36) rfl (XT.ii_ne_t c36) (by decide) (by decide) k) ?_
          show Fin _ p e below s _ _ _ s₁ (mkF m 43 #[.val (.int x), .val (.int ((x &&& (2147483647 : Int32)) % (6 : Int32)))] [])
          refine Fin.go (fun _ k => XS.iloadN X0.here hx rfl (hb hby d1_43) rfl k) ?_
          show Fin _ p e below s _ _ _ s₁ (mkF m 44 #[.val (.int x), .val (.int ((x &&& (2147483647 : Int32)) % (6 : Int32)))] [(.int ((x &&& (2147483647 : Int32)) % (6 : Int32)))])
          refine Fin.go (fun _ k => XS.iconst X0.here hx rfl (hb hby d1_44) k) ?_
          show Fin _ p e below s _ _ _ s₁ (mkF m 45 #[.val (.int x), .val (.int ((x &&& (2147483647 : Int32)) % (6 : Int32)))] [(.int (4 : Int32)), (.int ((x &&& (2147483647 : Int32)) % (6 : Int32)))])
          by_cases c45 : ((x &&& (2147483647 : Int32)) % (6 : Int32)) = (4 : Int32)
          · refine Fin.go (fun _ k => XS.icmpNo X0.here hx rfl (hb hby d1_45) rfl (XT.ii_ne_f c45) k) ?_
            show Fin _ p e below s _ _ _ s₁ (mkF m 48 #[.val (.int x), .val (.int ((x &&& (2147483647 : Int32)) % (6 : Int32)))] [])
            obtain ⟨T15, X15, e15, st15⟩ := getS2 X0 hx hZ hown (host := "") (Or.inl (hw _ w_74)) Via.refl e0 (S_aR.ext O.2) (g := (mkF m 48 #[.val (.int x), .val (.int ((x &&& (2147483647 : Int32)) % (6 : Int32)))] [])) rfl (hb hby d1_48)
            refine Fin.go st15 ?_
            show Fin _ p e below s _ _ _ T15 (mkF m 51 #[.val (.int x), .val (.int ((x &&& (2147483647 : Int32)) % (6 : Int32)))] [(.ref aR)])
            exact Fin.leaveN X15 e15 hlk (v := some (.ref aR)) (fun h => by rw [hret] at h; cases h) (by decide) (by decide) ⟨aR, rfl, rfl, rfl, Or.inl ⟨naRD, naRU, A_aR, F_aR⟩⟩ (fun fs hr => retOut X15 hx hret rfl (Or.inr (Or.inr (Or.inr (Or.inr ⟨rfl, rfl, rfl⟩)))) (hb hby d1_51) hr)
          · refine Fin.go (fun _ k => XS.icmpYes X0.here hx rfl (pc0 := 45) (pc' := 52) rfl (hb hby d1_45) rfl (XT.ii_ne_t c45) (by decide) (by decide) k) ?_
            show Fin _ p e below s _ _ _ s₁ (mkF m 52 #[.val (.int x), .val (.int ((x &&& (2147483647 : Int32)) % (6 : Int32)))] [])
            obtain ⟨T16, X16, e16, st16⟩ := getS2 X0 hx hZ hown (host := "") (Or.inl (hw _ w_10)) Via.refl e0 (S_aU.ext O.2) (g := (mkF m 52 #[.val (.int x), .val (.int ((x &&& (2147483647 : Int32)) % (6 : Int32)))] [])) rfl (hb hby d1_52)
            refine Fin.go st16 ?_
            show Fin _ p e below s _ _ _ T16 (mkF m 55 #[.val (.int x), .val (.int ((x &&& (2147483647 : Int32)) % (6 : Int32)))] [(.ref aU)])
            exact Fin.leaveN X16 e16 hlk (v := some (.ref aU)) (fun h => by rw [hret] at h; cases h) (by decide) (by decide) ⟨aU, rfl, rfl, rfl, Or.inr (Or.inr rfl)⟩ (fun fs hr => retOut X16 hx hret rfl (Or.inr (Or.inr (Or.inr (Or.inr ⟨rfl, rfl, rfl⟩)))) (hb hby d1_55) hr)
set_option maxRecDepth 65536 in
set_option maxHeartbeats 40000000 in
theorem rmRec (l : Launch) (Z : State) (a0 : Array Value) (hw : ∀ d ∈ tables_1, d.before a0 Z = true) (n0 : Nat) (h0 : Heap) (O : Old Z n0 h0) (a : Addr) :
    ConW FrameEnd l Z [] (⟨"java/lang/Record", "<init>", "()V"⟩ : MethodName) jdk_30_method_1_code 1 none ({ frames := 1, cells := 0, slots := 0, locals := 12 } : Room) #[(.ref a)] h0 (Pure h0 none) := by
  refine conOf (plainFor_of_name pn_java_lang_Record) ?_
  intro p e s m below mth cc s₁ X0 hx hby hml hown hnm hret hlk hZ e0
  have N0 := Fr.nil n0
  refine Fin.came (castTop (t := _) (by first | (simp [entryFrame, mkF, argsToLocals, Value.category]; done) | rfl) (Steps.refl _) : Steps p.tables e below (s₁.setTop (entryFrame m #[(.ref a)] 1)) (s₁.setTop (mkF m 0 #[.val (.ref a)] []))) ?_
  show Fin _ p e below s _ _ _ s₁ (mkF m 0 #[.val (.ref a)] [])
  refine Fin.go (fun _ k => XS.aloadN X0.here hx rfl (hb hby d6_0) rfl rfl k) ?_
  show Fin _ p e below s _ _ _ s₁ (mkF m 1 #[.val (.ref a)] [(.ref a)])
  obtain ⟨T11, X11, e11, st11⟩ := initO X0 hx hZ hown (hw _ w_45) (hw _ w_24) (hw _ w_25) e0 (g := (mkF m 1 #[.val (.ref a)] [(.ref a)])) rfl (by rw [hml]; rfl) rfl (hb hby d6_1) (by decide) (W := 0) (by show 2 * 0 + _ ≤ _; exact Nat.le_of_eq rfl) (by decide)
  refine Fin.go st11 ?_
  show Fin _ p e below s _ _ _ T11 (mkF m 4 #[.val (.ref a)] [])
  exact Fin.leaveN X11 e11 hlk (v := none) (fun _ => rfl) (by decide) (by decide) ⟨rfl, rfl, rfl⟩ (fun fs hr => X11.returnOut hx hret (hb hby d6_4) hr)
set_option maxRecDepth 65536 in
set_option maxHeartbeats 40000000 in
theorem rmRNN (l : Launch) (Z : State) (a0 : Array Value) (hw : ∀ d ∈ tables_1, d.before a0 Z = true) (n0 : Nat) (h0 : Heap) (O : Old Z n0 h0) (a b : Addr) :
    ConW FrameEnd l Z [] (⟨"java/util/Objects", "requireNonNull", "(Ljava/lang/Object;Ljava/lang/String;)Ljava/lang/Object;"⟩ : MethodName) jdk_31_method_11_code 2 (some (.object "java/lang/Object")) ({ frames := 0, cells := 0, slots := 0, locals := 0 } : Room) #[(.ref a), (.ref b)] h0 (Pure h0 (some (.ref a))) := by
  refine conOf (plainFor_of_name pn_java_util_Objects) ?_
  intro p e s m below mth cc s₁ X0 hx hby hml hown hnm hret hlk hZ e0
  have N0 := Fr.nil n0
  refine Fin.came (castTop (t := _) (by first | (simp [entryFrame, mkF, argsToLocals, Value.category]; done) | rfl) (Steps.refl _) : Steps p.tables e below (s₁.setTop (entryFrame m #[(.ref a), (.ref b)] 2)) (s₁.setTop (mkF m 0 #[.val (.ref a), .val (.ref b)] []))) ?_
  show Fin _ p e below s _ _ _ s₁ (mkF m 0 #[.val (.ref a), .val (.ref b)] [])
  refine Fin.go (fun _ k => XS.aloadN X0.here hx rfl (hb hby d7_0) rfl rfl k) ?_
  show Fin _ p e below s _ _ _ s₁ (mkF m 1 #[.val (.ref a), .val (.ref b)] [(.ref a)])
  refine Fin.go (fun _ k => XT.ifnonnullYes X0.here hx rfl (pc0 := 1) (pc' := 13) rfl (hb hby d7_1) rfl (by decide) (by decide) k) ?_
  show Fin _ p e below s _ _ _ s₁ (mkF m 13 #[.val (.ref a), .val (.ref b)] [])
  refine Fin.go (fun _ k => XS.aloadN X0.here hx rfl (hb hby d7_13) rfl rfl k) ?_
  show Fin _ p e below s _ _ _ s₁ (mkF m 14 #[.val (.ref a), .val (.ref b)] [(.ref a)])
  exact Fin.leaveN X0 e0 hlk (v := some (.ref a)) (fun h => by rw [hret] at h; cases h) (by decide) (by decide) ⟨rfl, rfl, rfl⟩ (fun fs hr => retOut X0 hx hret rfl (Or.inr (Or.inr (Or.inr (Or.inr ⟨rfl, rfl, rfl⟩)))) (hb hby d7_14) hr)
set_option maxRecDepth 65536 in
set_option maxHeartbeats 40000000 in
theorem rmIOC (l : Launch) (Z : State) (a0 : Array Value) (hw : ∀ d ∈ tables_1, d.before a0 Z = true) (n0 : Nat) (h0 : Heap) (O : Old Z n0 h0) (a : Addr) (F : Fld Z h0 a "com/example/grantwell/grantwell/catalog/Privilege" "onColumns" "Z" (.int (1 : Int32))) :
    ConW FrameEnd l Z [] (⟨"com/example/grantwell/grantwell/catalog/Privilege", "isOnColumns", "()Z"⟩ : MethodName) prog_49_method_4_code 1 (some .boolean) ({ frames := 0, cells := 0, slots := 0, locals := 0 } : Room) #[(.ref a)] h0 (Pure h0 (some (.int (1 : Int32)))) := by
  refine conOf (plainFor_of_name pn_com_example_grantwell_grantwell_catalog_Privilege) ?_
  intro p e s m below mth cc s₁ X0 hx hby hml hown hnm hret hlk hZ e0
  have N0 := Fr.nil n0
  refine Fin.came (castTop (t := _) (by first | (simp [entryFrame, mkF, argsToLocals, Value.category]; done) | rfl) (Steps.refl _) : Steps p.tables e below (s₁.setTop (entryFrame m #[(.ref a)] 1)) (s₁.setTop (mkF m 0 #[.val (.ref a)] []))) ?_
  show Fin _ p e below s _ _ _ s₁ (mkF m 0 #[.val (.ref a)] [])
  refine Fin.go (fun _ k => XS.aloadN X0.here hx rfl (hb hby d8_0) rfl rfl k) ?_
  show Fin _ p e below s _ _ _ s₁ (mkF m 1 #[.val (.ref a)] [(.ref a)])
  obtain ⟨T11, X11, e11, st11⟩ := getF X0 hx hZ hown (host := "") (Or.inl (hw _ w_56)) Via.refl e0 F (g := (mkF m 1 #[.val (.ref a)] [(.ref a)])) rfl rfl (hb hby d8_1)
  refine Fin.go st11 ?_
  show Fin _ p e below s _ _ _ T11 (mkF m 4 #[.val (.ref a)] [(.int (1 : Int32))])
  exact Fin.leaveN X11 e11 hlk (v := some (.int (nar .boolean (1 : Int32)))) (fun h => by rw [hret] at h; cases h) (by decide) (by decide) ⟨rfl, rfl, rfl⟩ (fun fs hr => retN X11 hx (t := .boolean) hret (by simp) (hb hby d8_4) hr)
set_option maxRecDepth 65536 in
set_option maxHeartbeats 40000000 in
theorem rmActN (l : Launch) (Z : State) (a0 : Array Value) (hw : ∀ d ∈ tables_1, d.before a0 Z = true) (n0 : Nat) (h0 : Heap) (O : Old Z n0 h0) (a pr : Addr)  (A : Exa Z h0 a "com/example/grantwell/grantwell/catalog/Action") (F1 : Fld Z h0 a "com/example/grantwell/grantwell/catalog/Action" "privilege" "Lcom/example/grantwell/grantwell/catalog/Privilege;" .null) (F2 : Fld Z h0 a "com/example/grantwell/grantwell/catalog/Action" "column" "Ljava/lang/String;" .null) (na : n0 ≤ a) :
    ConHW l Z EL [] (⟨"com/example/grantwell/grantwell/catalog/Action", "<init>", "(Lcom/example/grantwell/grantwell/catalog/Privilege;Ljava/lang/String;)V"⟩ : MethodName) prog_3_method_1_code 3 none ({ frames := 2, cells := 2, slots := 40, locals := 24 } : Room) #[(.ref a), (.ref pr), .null] h0 (fun v h L => v = none ∧ Fr n0 L ∧ Keep h0 h [a] ∧ Exa Z h a "com/example/grantwell/grantwell/catalog/Action" ∧ Fld Z h a "com/example/grantwell/grantwell/catalog/Action" "column" "Ljava/lang/String;" .null) := by
  refine conOfH (plainFor_of_name pn_com_example_grantwell_grantwell_catalog_Action) ?_
  intro p e s m below mth cc s₁ X0 hx hby hml hown hnm hret hlk hZ e0 hS RR0
  have N0 := Fr.nil n0
  have hEL := elW hw
  have K0 := Keep.refl h0 ([a] : List Addr)
  refine Fin.came (castTop (t := _) (by first | (simp [entryFrame, mkF, argsToLocals, Value.category]; done) | rfl) (Steps.refl _) : Steps p.tables e below (s₁.setTop (entryFrame m #[(.ref a), (.ref pr), .null] 3)) (s₁.setTop (mkF m 0 #[.val (.ref a), .val (.ref pr), .val .null] []))) ?_
  show Fin _ p e below s _ _ _ s₁ (mkF m 0 #[.val (.ref a), .val (.ref pr), .val .null] [])
  refine Fin.go (fun _ k => XS.aloadN X0.here hx rfl (hb hby d5_0) rfl rfl k) ?_
  show Fin _ p e below s _ _ _ s₁ (mkF m 1 #[.val (.ref a), .val (.ref pr), .val .null] [(.ref a)])
  obtain ⟨v11, T11, L11, X11, q11, st11⟩ := callCt X0 hx hZ (y := (⟨"java/lang/Record", "<init>", "()V"⟩ : MethodName)) rfl hown (hw _ w_40) (hw _ w_41) (hw _ w_43) (hw _ w_44) (by decide) (W := 0) (rmRec l Z a0 hw n0 h0 O a) e0 (by decide) (by decide) (by decide) (by decide) (g := (mkF m 1 #[.val (.ref a), .val (.ref pr), .val .null] [(.ref a)])) rfl (by rw [hml]; rfl) (a := a) (argsL := []) (rest := []) (lenOf pd_ocV rfl) rfl (by show 2 * 0 + _ ≤ _; exact Nat.le_of_eq rfl) (hb hby d5_1)
  obtain ⟨rfl, e11, rfl⟩ := q11
  have N11 := Fr.app N0 (Fr.nil n0)
  refine Fin.go st11 ?_
  show Fin _ p e below s _ _ _ T11 (mkF m 4 #[.val (.ref a), .val (.ref pr), .val .null] [])
  refine Fin.go (fun _ k => XS.aloadN X11.here hx rfl (hb hby d5_4) rfl rfl k) ?_
  show Fin _ p e below s _ _ _ T11 (mkF m 5 #[.val (.ref a), .val (.ref pr), .val .null] [(.ref pr)])
  obtain ⟨a12, T12, h12, k12, X12, e12, E12, hS12, hj12, hZ12, hown12, RC12, lt12, st12⟩ := ldcOH X11 hx hZ hown (hw _ w_46) (strW hw) e11 hS (Nat.zero_le _) hEL RR0.1 (g := (mkF m 5 #[.val (.ref a), .val (.ref pr), .val .null] [(.ref pr)])) rfl (hb hby d5_5) (n := 36) (by decide) (by decide) (by decide) (by decide)
  refine Fin.go st12 ?_
  have O12 := O.ext E12
  have K12 := K0.ext E12
  have RR12 := RR0.trans RC12
  show Fin _ p e below s _ _ _ T12 (mkF m 7 #[.val (.ref a), .val (.ref pr), .val .null] [(.ref a12), (.ref pr)])
  obtain ⟨v13, T13, L13, X13, q13, st13⟩ := callSt X12 hx hZ12 (y := (⟨"java/util/Objects", "requireNonNull", "(Ljava/lang/Object;Ljava/lang/String;)Ljava/lang/Object;"⟩ : MethodName)) hown12 (hw _ w_47) (hw _ w_48) (hw _ w_49) (hw _ w_50) (by decide) (W := 0) (rmRNN l Z a0 hw n0 h12 O12 pr a12) e12 (by decide) (by decide) (by decide) (by decide) (g := (mkF m 7 #[.val (.ref a), .val (.ref pr), .val .null] [(.ref a12), (.ref pr)])) rfl (by rw [hml]; rfl) (argsL := [(.ref pr), (.ref a12)]) (rest := []) (lenOf pd_oLjava_lang_Object_Ljava_lang_String_cLjava_lang_Object_ rfl) rfl (by show 2 * 0 + _ ≤ _; exact Nat.le_of_eq rfl) (hb hby d5_7)
  obtain ⟨rfl, e13, rfl⟩ := q13
  have N13 := Fr.app N11 (Fr.nil n0)
  refine Fin.go st13 ?_
  show Fin _ p e below s _ _ _ T13 (mkF m 10 #[.val (.ref a), .val (.ref pr), .val .null] [(.ref pr)])
  refine Fin.go (fun _ k => XT.pop X13.here hx rfl (hb hby d5_10) rfl rfl k) ?_
  show Fin _ p e below s _ _ _ T13 (mkF m 11 #[.val (.ref a), .val (.ref pr), .val .null] [])
  refine Fin.go (fun _ k => XS.aloadN X13.here hx rfl (hb hby d5_11) rfl rfl k) ?_
  show Fin _ p e below s _ _ _ T13 (mkF m 12 #[.val (.ref a), .val (.ref pr), .val .null] [.null])
  refine Fin.go (fun _ k => XS.ifnullYes X13.here hx rfl (pc0 := 12) (pc' := 39) rfl (hb hby d5_12) rfl (by decide) (by decide) k) ?_
  show Fin _ p e below s _ _ _ T13 (mkF m 39 #[.val (.ref a), .val (.ref pr), .val .null] [])
  refine Fin.go (fun _ k => XS.aloadN X13.here hx rfl (hb hby d5_39) rfl rfl k) ?_
  show Fin _ p e below s _ _ _ T13 (mkF m 40 #[.val (.ref a), .val (.ref pr), .val .null] [(.ref a)])
  refine Fin.go (fun _ k => XS.aloadN X13.here hx rfl (hb hby d5_40) rfl rfl k) ?_
  show Fin _ p e below s _ _ _ T13 (mkF m 41 #[.val (.ref a), .val (.ref pr), .val .null] [(.ref pr), (.ref a)])
  obtain ⟨T14, h14, X14, e14, W14, st14⟩ := putF X13 hx hZ12 hown12 (host := "") (Or.inl (hw _ w_58)) Via.refl e13 (F1.ext E12) (A.ext E12) (Or.inr ⟨(hw _ w_59), rfl, hnm⟩) (hw _ w_35) (ty := (.object "com/example/grantwell/grantwell/catalog/Privilege")) (by decide) rfl rfl (g := (mkF m 41 #[.val (.ref a), .val (.ref pr), .val .null] [(.ref pr), (.ref a)])) rfl rfl (hb hby d5_41)
  refine Fin.go st14 ?_
  have N14 := Fr.snoc X14 N13 na
  have O14 := O12.wr W14 na
  have K14 := K12.wr W14 (Or.inl (List.mem_of_getElem? (i := 0) rfl))
  have hk14 := Nat.le_trans hj12 (Keep.of_wr W14).1
  have RR14 := RR12.trans (CHr.wr W14 (Safe.exa hZ12.alike (A.ext E12) (by decide) (by decide)) RR12.1)
  have F14_a_column := ((F2.ext E12).other W14 (Or.inr (slot_ne (Or.inr (hw _ w_61)) (Or.inr (hw _ w_59)) (by decide) (t := (.object "java/lang/String")) (t' := (.object "com/example/grantwell/grantwell/catalog/Privilege")) (by decide) (by decide))))
  show Fin _ p e below s _ _ _ T14 (mkF m 44 #[.val (.ref a), .val (.ref pr), .val .null] [])
  refine Fin.go (fun _ k => XS.aloadN X14.here hx rfl (hb hby d5_44) rfl rfl k) ?_
  show Fin _ p e below s _ _ _ T14 (mkF m 45 #[.val (.ref a), .val (.ref pr), .val .null] [(.ref a)])
  refine Fin.go (fun _ k => XS.aloadN X14.here hx rfl (hb hby d5_45) rfl rfl k) ?_
  show Fin _ p e below s _ _ _ T14 (mkF m 46 #[.val (.ref a), .val (.ref pr), .val .null] [.null, (.ref a)])
  obtain ⟨T15, h15, X15, e15, W15, st15⟩ := putF X14 hx hZ12 hown12 (host := "") (Or.inl (hw _ w_60)) Via.refl e14 F14_a_column ((A.ext E12).wr W14) (Or.inr ⟨(hw _ w_61), rfl, hnm⟩) (hw _ w_35) (ty := (.object "java/lang/String")) (by decide) rfl rfl (g := (mkF m 46 #[.val (.ref a), .val (.ref pr), .val .null] [.null, (.ref a)])) rfl rfl (hb hby d5_46)
  refine Fin.go st15 ?_
  have N15 := Fr.snoc X15 N14 na
  have O15 := O14.wr W15 na
  have K15 := K14.wr W15 (Or.inl (List.mem_of_getElem? (i := 0) rfl))
  have hk15 := Nat.le_trans hk14 (Keep.of_wr W15).1
  have RR15 := RR14.trans (CHr.wr W15 (Safe.exa hZ12.alike ((A.ext E12).wr W14) (by decide) (by decide)) RR14.1)
  have F15_a_privilege := (((F1.ext E12).same W14).other W15 (Or.inr (slot_ne (Or.inr (hw _ w_59)) (Or.inr (hw _ w_61)) (by decide) (t := (.object "com/example/grantwell/grantwell/catalog/Privilege")) (t' := (.object "java/lang/String")) (by decide) (by decide))))
  show Fin _ p e below s _ _ _ T15 (mkF m 49 #[.val (.ref a), .val (.ref pr), .val .null] [])
  exact Fin.leaveH X15 hS12 hk15 hZ12 hEL e15 RR15 hlk (v := none) (fun _ => rfl) (by decide) (by decide) ⟨rfl, N15, K15, (((A.ext E12).wr W14).wr W15), (F14_a_column.same W15)⟩ (fun fs hr => X15.returnOut hx hret (hb hby d5_49) hr)
set_option maxRecDepth 65536 in
set_option maxHeartbeats 40000000 in
theorem rmActR (l : Launch) (Z : State) (a0 : Array Value) (hw : ∀ d ∈ tables_1, d.before a0 Z = true) (n0 : Nat) (h0 : Heap) (O : Old Z n0 h0) (a pr : Addr) (co : Addr) (AP : Exa Z Z.heap pr "com/example/grantwell/grantwell/catalog/Privilege") (FP : Fld Z Z.heap pr "com/example/grantwell/grantwell/catalog/Privilege" "onColumns" "Z" (.int (1 : Int32))) (A : Exa Z h0 a "com/example/grantwell/grantwell/catalog/Action") (F1 : Fld Z h0 a "com/example/grantwell/grantwell/catalog/Action" "privilege" "Lcom/example/grantwell/grantwell/catalog/Privilege;" .null) (F2 : Fld Z h0 a "com/example/grantwell/grantwell/catalog/Action" "column" "Ljava/lang/String;" .null) (na : n0 ≤ a) :
    ConHW l Z EL [] (⟨"com/example/grantwell/grantwell/catalog/Action", "<init>", "(Lcom/example/grantwell/grantwell/catalog/Privilege;Ljava/lang/String;)V"⟩ : MethodName) prog_3_method_1_code 3 none ({ frames := 2, cells := 2, slots := 40, locals := 24 } : Room) #[(.ref a), (.ref pr), (.ref co)] h0 (fun v h L => v = none ∧ Fr n0 L ∧ Keep h0 h [a] ∧ Exa Z h a "com/example/grantwell/grantwell/catalog/Action" ∧ Fld Z h a "com/example/grantwell/grantwell/catalog/Action" "column" "Ljava/lang/String;" (.ref co)) := by
  refine conOfH (plainFor_of_name pn_com_example_grantwell_grantwell_catalog_Action) ?_
  intro p e s m below mth cc s₁ X0 hx hby hml hown hnm hret hlk hZ e0 hS RR0
  have N0 := Fr.nil n0
  have hEL := elW hw
  have K0 := Keep.refl h0 ([a] : List Addr)
  refine Fin.came (castTop (t := _) (by first | (simp [entryFrame, mkF, argsToLocals, Value.category]; done) | rfl) (Steps.refl _) : Steps p.tables e below (s₁.setTop (entryFrame m #[(.ref a), (.ref pr), (.ref co)] 3)) (s₁.setTop (mkF m 0 #[.val (.ref a), .val (.ref pr), .val (.ref co)] []))) ?_
  show Fin _ p e below s _ _ _ s₁ (mkF m 0 #[.val (.ref a), .val (.ref pr), .val (.ref co)] [])
  refine Fin.go (fun _ k => XS.aloadN X0.here hx rfl (hb hby d5_0) rfl rfl k) ?_
  show Fin _ p e below s _ _ _ s₁ (mkF m 1 #[.val (.ref a), .val (.ref pr), .val (.ref co)] [(.ref a)])
  obtain ⟨v11, T11, L11, X11, q11, st11⟩ := callCt X0 hx hZ (y := (⟨"java/lang/Record", "<init>", "()V"⟩ : MethodName)) rfl hown (hw _ w_40) (hw _ w_41) (hw _ w_43) (hw _ w_44) (by decide) (W := 0) (rmRec l Z a0 hw n0 h0 O a) e0 (by decide) (by decide) (by decide) (by decide) (g := (mkF m 1 #[.val (.ref a), .val (.ref pr), .val (.ref co)] [(.ref a)])) rfl (by rw [hml]; rfl) (a := a) (argsL := []) (rest := []) (lenOf pd_ocV rfl) rfl (by show 2 * 0 + _ ≤ _; exact Nat.le_of_eq rfl) (hb hby d5_1)
  obtain ⟨rfl, e11, rfl⟩ := q11
  have N11 := Fr.app N0 (Fr.nil n0)
  refine Fin.go st11 ?_
  show Fin _ p e below s _ _ _ T11 (mkF m 4 #[.val (.ref a), .val (.ref pr), .val (.ref co)] [])
  refine Fin.go (fun _ k => XS.aloadN X11.here hx rfl (hb hby d5_4) rfl rfl k) ?_
  show Fin _ p e below s _ _ _ T11 (mkF m 5 #[.val (.ref a), .val (.ref pr), .val (.ref co)] [(.ref pr)])
  obtain ⟨a12, T12, h12, k12, X12, e12, E12, hS12, hj12, hZ12, hown12, RC12, lt12, st12⟩ := ldcOH X11 hx hZ hown (hw _ w_46) (strW hw) e11 hS (Nat.zero_le _) hEL RR0.1 (g := (mkF m 5 #[.val (.ref a), .val (.ref pr), .val (.ref co)] [(.ref pr)])) rfl (hb hby d5_5) (n := 36) (by decide) (by decide) (by decide) (by decide)
  refine Fin.go st12 ?_
  have O12 := O.ext E12
  have K12 := K0.ext E12
  have RR12 := RR0.trans RC12
  show Fin _ p e below s _ _ _ T12 (mkF m 7 #[.val (.ref a), .val (.ref pr), .val (.ref co)] [(.ref a12), (.ref pr)])
  obtain ⟨v13, T13, L13, X13, q13, st13⟩ := callSt X12 hx hZ12 (y := (⟨"java/util/Objects", "requireNonNull", "(Ljava/lang/Object;Ljava/lang/String;)Ljava/lang/Object;"⟩ : MethodName)) hown12 (hw _ w_47) (hw _ w_48) (hw _ w_49) (hw _ w_50) (by decide) (W := 0) (rmRNN l Z a0 hw n0 h12 O12 pr a12) e12 (by decide) (by decide) (by decide) (by decide) (g := (mkF m 7 #[.val (.ref a), .val (.ref pr), .val (.ref co)] [(.ref a12), (.ref pr)])) rfl (by rw [hml]; rfl) (argsL := [(.ref pr), (.ref a12)]) (rest := []) (lenOf pd_oLjava_lang_Object_Ljava_lang_String_cLjava_lang_Object_ rfl) rfl (by show 2 * 0 + _ ≤ _; exact Nat.le_of_eq rfl) (hb hby d5_7)
  obtain ⟨rfl, e13, rfl⟩ := q13
  have N13 := Fr.app N11 (Fr.nil n0)
  refine Fin.go st13 ?_
  show Fin _ p e below s _ _ _ T13 (mkF m 10 #[.val (.ref a), .val (.ref pr), .val (.ref co)] [(.ref pr)])
  refine Fin.go (fun _ k => XT.pop X13.here hx rfl (hb hby d5_10) rfl rfl k) ?_
  show Fin _ p e below s _ _ _ T13 (mkF m 11 #[.val (.ref a), .val (.ref pr), .val (.ref co)] [])
  refine Fin.go (fun _ k => XS.aloadN X13.here hx rfl (hb hby d5_11) rfl rfl k) ?_
  show Fin _ p e below s _ _ _ T13 (mkF m 12 #[.val (.ref a), .val (.ref pr), .val (.ref co)] [(.ref co)])
  refine Fin.go (fun _ k => XS.ifnullNo X13.here hx rfl (hb hby d5_12) rfl k) ?_
  show Fin _ p e below s _ _ _ T13 (mkF m 15 #[.val (.ref a), .val (.ref pr), .val (.ref co)] [])
  refine Fin.go (fun _ k => XS.aloadN X13.here hx rfl (hb hby d5_15) rfl rfl k) ?_
  show Fin _ p e below s _ _ _ T13 (mkF m 16 #[.val (.ref a), .val (.ref pr), .val (.ref co)] [(.ref pr)])
  obtain ⟨v14, T14, L14, X14, q14, st14⟩ := callVt X13 hx hZ12 (y := (⟨"com/example/grantwell/grantwell/catalog/Privilege", "isOnColumns", "()Z"⟩ : MethodName)) hown12 (hw _ w_51) (hw _ w_52) (hw _ w_54) (hw _ w_53) (hw _ w_6) (hw _ w_55) (by decide) (W := 0) (rmIOC l Z a0 hw n0 h12 O12 pr (FP.ext O12.2)) e13 (AP.ext O12.2) (by decide) (by decide) (by decide) (by decide) (g := (mkF m 16 #[.val (.ref a), .val (.ref pr), .val (.ref co)] [(.ref pr)])) rfl (by rw [hml]; rfl) (argsL := []) (rest := []) (lenOf pd_ocZ rfl) rfl (by show 2 * 0 + _ ≤ _; exact Nat.le_of_eq rfl) (hb hby d5_16)
  obtain ⟨rfl, e14, rfl⟩ := q14
  have N14 := Fr.app N13 (Fr.nil n0)
  refine Fin.go st14 ?_
  show Fin _ p e below s _ _ _ T14 (mkF m 19 #[.val (.ref a), .val (.ref pr), .val (.ref co)] [(.int (1 : Int32))])
  refine Fin.go (fun _ k => XS.ifYes X14.here hx rfl (pc0 := 19) (pc' := 39) rfl (hb hby d5_19) rfl (XT.i0_ne_t (by decide)) (by decide) (by decide) k) ?_
  show Fin _ p e below s _ _ _ T14 (mkF m 39 #[.val (.ref a), .val (.ref pr), .val (.ref co)] [])
  refine Fin.go (fun _ k => XS.aloadN X14.here hx rfl (hb hby d5_39) rfl rfl k) ?_
  show Fin _ p e below s _ _ _ T14 (mkF m 40 #[.val (.ref a), .val (.ref pr), .val (.ref co)] [(.ref a)])
  refine Fin.go (fun _ k => XS.aloadN X14.here hx rfl (hb hby d5_40) rfl rfl k) ?_
  show Fin _ p e below s _ _ _ T14 (mkF m 41 #[.val (.ref a), .val (.ref pr), .val (.ref co)] [(.ref pr), (.ref a)])
  obtain ⟨T15, h15, X15, e15, W15, st15⟩ := putF X14 hx hZ12 hown12 (host := "") (Or.inl (hw _ w_58)) Via.refl e14 (F1.ext E12) (A.ext E12) (Or.inr ⟨(hw _ w_59), rfl, hnm⟩) (hw _ w_35) (ty := (.object "com/example/grantwell/grantwell/catalog/Privilege")) (by decide) rfl rfl (g := (mkF m 41 #[.val (.ref a), .val (.ref pr), .val (.ref co)] [(.ref pr), (.ref a)])) rfl rfl (hb hby d5_41)
  refine Fin.go st15 ?_
  have N15 := Fr.snoc X15 N14 na
  have O15 := O12.wr W15 na
  have K15 := K12.wr W15 (Or.inl (List.mem_of_getElem? (i := 0) rfl))
  have hk15 := Nat.le_trans hj12 (Keep.of_wr W15).1
  have RR15 := RR12.trans (CHr.wr W15 (Safe.exa hZ12.alike (A.ext E12) (by decide) (by decide)) RR12.1)
  have F15_a_column := ((F2.ext E12).other W15 (Or.inr (slot_ne (Or.inr (hw _ w_61)) (Or.inr (hw _ w_59)) (by decide) (t := (.object "java/lang/String")) (t' := (.object "com/example/grantwell/grantwell/catalog/Privilege")) (by decide) (by decide))))
  show Fin _ p e below s _ _ _ T15 (mkF m 44 #[.val (.ref a), .val (.ref pr), .val (.ref co)] [])
  refine Fin.go (fun _ k => XS.aloadN X15.here hx rfl (hb hby d5_44) rfl rfl k) ?_
  show Fin _ p e below s _ _ _ T15 (mkF m 45 #[.val (.ref a), .val (.ref pr), .val (.ref co)] [(.ref a)])
  refine Fin.go (fun _ k => XS.aloadN X15.here hx rfl (hb hby d5_45) rfl rfl k) ?_
  show Fin _ p e below s _ _ _ T15 (mkF m 46 #[.val (.ref a), .val (.ref pr), .val (.ref co)] [(.ref co), (.ref a)])
  obtain ⟨T16, h16, X16, e16, W16, st16⟩ := putF X15 hx hZ12 hown12 (host := "") (Or.inl (hw _ w_60)) Via.refl e15 F15_a_column ((A.ext E12).wr W15) (Or.inr ⟨(hw _ w_61), rfl, hnm⟩) (hw _ w_35) (ty := (.object "java/lang/String")) (by decide) rfl rfl (g := (mkF m 46 #[.val (.ref a), .val (.ref pr), .val (.ref co)] [(.ref co), (.ref a)])) rfl rfl (hb hby d5_46)
  refine Fin.go st16 ?_
  have N16 := Fr.snoc X16 N15 na
  have O16 := O15.wr W16 na
  have K16 := K15.wr W16 (Or.inl (List.mem_of_getElem? (i := 0) rfl))
  have hk16 := Nat.le_trans hk15 (Keep.of_wr W16).1
  have RR16 := RR15.trans (CHr.wr W16 (Safe.exa hZ12.alike ((A.ext E12).wr W15) (by decide) (by decide)) RR15.1)
  have F16_a_privilege := (((F1.ext E12).same W15).other W16 (Or.inr (slot_ne (Or.inr (hw _ w_59)) (Or.inr (hw _ w_61)) (by decide) (t := (.object "com/example/grantwell/grantwell/catalog/Privilege")) (t' := (.object "java/lang/String")) (by decide) (by decide))))
  show Fin _ p e below s _ _ _ T16 (mkF m 49 #[.val (.ref a), .val (.ref pr), .val (.ref co)] [])
  exact Fin.leaveH X16 hS12 hk16 hZ12 hEL e16 RR16 hlk (v := none) (fun _ => rfl) (by decide) (by decide) ⟨rfl, N16, K16, (((A.ext E12).wr W15).wr W16), (F15_a_column.same W16)⟩ (fun fs hr => X16.returnOut hx hret (hb hby d5_49) hr)
set_option maxRecDepth 65536 in
set_option maxHeartbeats 40000000 in
theorem rmOT (l : Launch) (Z : State) (a0 : Array Value) (hw : ∀ d ∈ tables_1, d.before a0 Z = true) (n0 : Nat) (h0 : Heap) (O : Old Z n0 h0) (pr : Addr) :
    ConHW l Z EL [] (⟨"com/example/grantwell/grantwell/catalog/Action", "onTable", "(Lcom/example/grantwell/grantwell/catalog/Privilege;)Lcom/example/grantwell/grantwell/catalog/Action;"⟩ : MethodName) prog_3_method_2_code 1 (some (.object "com/example/grantwell/grantwell/catalog/Action")) ({ frames := 3, cells := 3, slots := 42, locals := 39 } : Room) #[(.ref pr)] h0 (fun v h L => ∃ o, v = some (.ref o) ∧ Fr n0 L ∧ Keep h0 h [] ∧ Exa Z h o "com/example/grantwell/grantwell/catalog/Action" ∧ Fld Z h o "com/example/grantwell/grantwell/catalog/Action" "column" "Ljava/lang/String;" .null) := by
  refine conOfH (plainFor_of_name pn_com_example_grantwell_grantwell_catalog_Action) ?_
  intro p e s m below mth cc s₁ X0 hx hby hml hown hnm hret hlk hZ e0 hS RR0
  have N0 := Fr.nil n0
  have hEL := elW hw
  have K0 := Keep.refl h0 ([] : List Addr)
  refine Fin.came (castTop (t := _) (by first | (simp [entryFrame, mkF, argsToLocals, Value.category]; done) | rfl) (Steps.refl _) : Steps p.tables e below (s₁.setTop (entryFrame m #[(.ref pr)] 1)) (s₁.setTop (mkF m 0 #[.val (.ref pr)] []))) ?_
  show Fin _ p e below s _ _ _ s₁ (mkF m 0 #[.val (.ref pr)] [])
  obtain ⟨T11, h11, X11, e11, E11, A11, D11, U11, st11⟩ := newO X0 hx hZ hown (hw _ w_70) (hw _ w_35) (hw _ w_36) e0 (g := (mkF m 0 #[.val (.ref pr)] [])) rfl (hb hby d10_0) (by decide) (by decide)
  obtain ⟨a11, g11⟩ : ∃ z, z = h0.size := ⟨_, rfl⟩
  rw [← g11] at A11 D11 U11 st11
  refine Fin.go st11 ?_
  have O11 := O.ext E11
  have K11 := K0.ext E11
  have hk11 := Nat.le_trans (Nat.zero_le _) E11.1
  have RR11 := RR0.trans (CHr.ext E11 RR0.1)
  have n11 : n0 ≤ a11 := by have := O.2.1; have := O.1; omega
  have z11 : h0.size ≤ a11 := by have := K0.1; omega
  have F11_privilege : Fld Z h11 a11 "com/example/grantwell/grantwell/catalog/Action" "privilege" "Lcom/example/grantwell/grantwell/catalog/Privilege;" .null := D11 (Or.inr (hw _ w_59)) (ty := (.object "com/example/grantwell/grantwell/catalog/Privilege")) (by decide)
  have F11_column : Fld Z h11 a11 "com/example/grantwell/grantwell/catalog/Action" "column" "Ljava/lang/String;" .null := D11 (Or.inr (hw _ w_61)) (ty := (.object "java/lang/String")) (by decide)
  show Fin _ p e below s _ _ _ T11 (mkF m 3 #[.val (.ref pr)] [(.ref a11)])
  refine Fin.go (fun _ k => XS.dup X11.here hx rfl (hb hby d10_3) rfl rfl k) ?_
  show Fin _ p e below s _ _ _ T11 (mkF m 4 #[.val (.ref pr)] [(.ref a11), (.ref a11)])
  refine Fin.go (fun _ k => XS.aloadN X11.here hx rfl (hb hby d10_4) rfl rfl k) ?_
  show Fin _ p e below s _ _ _ T11 (mkF m 5 #[.val (.ref pr)] [(.ref pr), (.ref a11), (.ref a11)])
  refine Fin.go (fun _ k => XS.aconstNull X11.here hx rfl (hb hby d10_5) k) ?_
  show Fin _ p e below s _ _ _ T11 (mkF m 6 #[.val (.ref pr)] [.null, (.ref pr), (.ref a11), (.ref a11)])
  obtain ⟨v12, T12, L12, X12, hS12, hZ12, hown12, RC12, q12, st12⟩ := callCtH X11 hx hZ (y := (⟨"com/example/grantwell/grantwell/catalog/Action", "<init>", "(Lcom/example/grantwell/grantwell/catalog/Privilege;Ljava/lang/String;)V"⟩ : MethodName)) rfl hown (hw _ w_71) (hw _ w_38) (hw _ w_36) (hw _ w_39) (by decide) (W := 1) (rmActN l Z a0 hw n0 h11 O11 a11 pr A11 F11_privilege F11_column n11) e11 hS hk11 hEL RR11.1 (by decide) (by decide) (by decide) (by decide) (g := (mkF m 6 #[.val (.ref pr)] [.null, (.ref pr), (.ref a11), (.ref a11)])) rfl (by rw [hml]; rfl) (a := a11) (argsL := [(.ref pr), .null]) (rest := [(.ref a11)]) (lenOf pd_oLcom_example_grantwell_grantwell_catalog_Privilege_Ljava_lang_String_cV rfl) rfl (by show 2 * 0 + _ ≤ _; exact Nat.le_of_eq rfl) (hb hby d10_6)
  obtain ⟨rfl, Nq12, Kq12, A12, F12⟩ := q12
  have N12 := Fr.app N0 Nq12
  have O12 := O11.keep Kq12 (allS n11 all0)
  have K12 := K11.trans Kq12 (allS (Or.inr z11) all0)
  have RR12 := RR11.trans RC12
  refine Fin.go st12 ?_
  show Fin _ p e below s _ _ _ T12 (mkF m 9 #[.val (.ref pr)] [(.ref a11)])
  exact Fin.leaveH X12 hS12 (Nat.le_refl T12.heap.size) hZ12 hEL (rfl : T12.heap = T12.heap) RR12 hlk (v := some (.ref a11)) (fun h => by rw [hret] at h; cases h) (by decide) (by decide) ⟨a11, rfl, N12, K12, A12, F12⟩ (fun fs hr => retOut X12 hx hret rfl (Or.inr (Or.inr (Or.inr (Or.inr ⟨rfl, rfl, rfl⟩)))) (hb hby d10_9) hr)
set_option maxRecDepth 65536 in
set_option maxHeartbeats 40000000 in
theorem rmColN (l : Launch) (Z : State) (a0 : Array Value) (hw : ∀ d ∈ tables_1, d.before a0 Z = true) (n0 : Nat) (h0 : Heap) (O : Old Z n0 h0) (a co : Addr) (F : Fld Z h0 a "com/example/grantwell/grantwell/catalog/Action" "column" "Ljava/lang/String;" .null) :
    ConW FrameEnd l Z [] (⟨"com/example/grantwell/grantwell/catalog/Action", "isOnColumn", "()Z"⟩ : MethodName) prog_3_method_3_code 1 (some .boolean) ({ frames := 0, cells := 0, slots := 0, locals := 0 } : Room) #[(.ref a)] h0 (Pure h0 (some (.int (0 : Int32)))) := by
  refine conOf (plainFor_of_name pn_com_example_grantwell_grantwell_catalog_Action) ?_
  intro p e s m below mth cc s₁ X0 hx hby hml hown hnm hret hlk hZ e0
  have N0 := Fr.nil n0
  refine Fin.came (castTop (t := _) (by first | (simp [entryFrame, mkF, argsToLocals, Value.category]; done) | rfl) (Steps.refl _) : Steps p.tables e below (s₁.setTop (entryFrame m #[(.ref a)] 1)) (s₁.setTop (mkF m 0 #[.val (.ref a)] []))) ?_
  show Fin _ p e below s _ _ _ s₁ (mkF m 0 #[.val (.ref a)] [])
  refine Fin.go (fun _ k => XS.aloadN X0.here hx rfl (hb hby d9_0) rfl rfl k) ?_
  show Fin _ p e below s _ _ _ s₁ (mkF m 1 #[.val (.ref a)] [(.ref a)])
  obtain ⟨T11, X11, e11, st11⟩ := getF X0 hx hZ hown (host := "") (Or.inl (hw _ w_60)) Via.refl e0 F (g := (mkF m 1 #[.val (.ref a)] [(.ref a)])) rfl rfl (hb hby d9_1)
  refine Fin.go st11 ?_
  show Fin _ p e below s _ _ _ T11 (mkF m 4 #[.val (.ref a)] [.null])
  refine Fin.go (fun _ k => XS.ifnullYes X11.here hx rfl (pc0 := 4) (pc' := 11) rfl (hb hby d9_4) rfl (by decide) (by decide) k) ?_
  show Fin _ p e below s _ _ _ T11 (mkF m 11 #[.val (.ref a)] [])
  refine Fin.go (fun _ k => XS.iconst X11.here hx rfl (hb hby d9_11) k) ?_
  show Fin _ p e below s _ _ _ T11 (mkF m 12 #[.val (.ref a)] [(.int (0 : Int32))])
  exact Fin.leaveN X11 e11 hlk (v := some (.int (nar .boolean (0 : Int32)))) (fun h => by rw [hret] at h; cases h) (by decide) (by decide) ⟨rfl, rfl, rfl⟩ (fun fs hr => retN X11 hx (t := .boolean) hret (by simp) (hb hby d9_12) hr)
set_option maxRecDepth 65536 in
set_option maxHeartbeats 40000000 in
theorem rmColR (l : Launch) (Z : State) (a0 : Array Value) (hw : ∀ d ∈ tables_1, d.before a0 Z = true) (n0 : Nat) (h0 : Heap) (O : Old Z n0 h0) (a co : Addr) (F : Fld Z h0 a "com/example/grantwell/grantwell/catalog/Action" "column" "Ljava/lang/String;" (.ref co)) :
    ConW FrameEnd l Z [] (⟨"com/example/grantwell/grantwell/catalog/Action", "isOnColumn", "()Z"⟩ : MethodName) prog_3_method_3_code 1 (some .boolean) ({ frames := 0, cells := 0, slots := 0, locals := 0 } : Room) #[(.ref a)] h0 (Pure h0 (some (.int (1 : Int32)))) := by
  refine conOf (plainFor_of_name pn_com_example_grantwell_grantwell_catalog_Action) ?_
  intro p e s m below mth cc s₁ X0 hx hby hml hown hnm hret hlk hZ e0
  have N0 := Fr.nil n0
  refine Fin.came (castTop (t := _) (by first | (simp [entryFrame, mkF, argsToLocals, Value.category]; done) | rfl) (Steps.refl _) : Steps p.tables e below (s₁.setTop (entryFrame m #[(.ref a)] 1)) (s₁.setTop (mkF m 0 #[.val (.ref a)] []))) ?_
  show Fin _ p e below s _ _ _ s₁ (mkF m 0 #[.val (.ref a)] [])
  refine Fin.go (fun _ k => XS.aloadN X0.here hx rfl (hb hby d9_0) rfl rfl k) ?_
  show Fin _ p e below s _ _ _ s₁ (mkF m 1 #[.val (.ref a)] [(.ref a)])
  obtain ⟨T11, X11, e11, st11⟩ := getF X0 hx hZ hown (host := "") (Or.inl (hw _ w_60)) Via.refl e0 F (g := (mkF m 1 #[.val (.ref a)] [(.ref a)])) rfl rfl (hb hby d9_1)
  refine Fin.go st11 ?_
  show Fin _ p e below s _ _ _ T11 (mkF m 4 #[.val (.ref a)] [(.ref co)])
  refine Fin.go (fun _ k => XS.ifnullNo X11.here hx rfl (hb hby d9_4) rfl k) ?_
  show Fin _ p e below s _ _ _ T11 (mkF m 7 #[.val (.ref a)] [])
  refine Fin.go (fun _ k => XS.iconst X11.here hx rfl (hb hby d9_7) k) ?_
  show Fin _ p e below s _ _ _ T11 (mkF m 8 #[.val (.ref a)] [(.int (1 : Int32))])
  refine Fin.go (fun _ k => XS.goto X11.here hx rfl (pc0 := 8) (pc' := 12) rfl (hb hby d9_8) (by decide) (by decide) k) ?_
  show Fin _ p e below s _ _ _ T11 (mkF m 12 #[.val (.ref a)] [(.int (1 : Int32))])
  exact Fin.leaveN X11 e11 hlk (v := some (.int (nar .boolean (1 : Int32)))) (fun h => by rw [hret] at h; cases h) (by decide) (by decide) ⟨rfl, rfl, rfl⟩ (fun fs hr => retN X11 hx (t := .boolean) hret (by simp) (hb hby d9_12) hr)
set_option maxRecDepth 65536 in
set_option maxHeartbeats 40000000 in
theorem law (l : Launch) (Z : State) (a0 : Array Value) (hw : ∀ d ∈ tables_1, d.before a0 Z = true) (n0 : Nat) (h0 : Heap) (O : Old Z n0 h0) (p0 p1 p2 p3 : Int32) (cs : Int32) (S_cs : Sta Z Z.heap "java/lang/String" "COMPACT_STRINGS" "Z" (.int cs)) (hcs : ¬ cs = 0) (aS aI aT aD aR aU : Addr) (S_aS : Sta Z Z.heap "com/example/grantwell/grantwell/catalog/Privilege" "SELECT" "Lcom/example/grantwell/grantwell/catalog/Privilege;" (.ref aS)) (S_aI : Sta Z Z.heap "com/example/grantwell/grantwell/catalog/Privilege" "INSERT" "Lcom/example/grantwell/grantwell/catalog/Privilege;" (.ref aI)) (S_aT : Sta Z Z.heap "com/example/grantwell/grantwell/catalog/Privilege" "UPDATE" "Lcom/example/grantwell/grantwell/catalog/Privilege;" (.ref aT)) (S_aD : Sta Z Z.heap "com/example/grantwell/grantwell/catalog/Privilege" "DELETE" "Lcom/example/grantwell/grantwell/catalog/Privilege;" (.ref aD)) (S_aR : Sta Z Z.heap "com/example/grantwell/grantwell/catalog/Privilege" "REFERENCES" "Lcom/example/grantwell/grantwell/catalog/Privilege;" (.ref aR)) (S_aU : Sta Z Z.heap "com/example/grantwell/grantwell/catalog/Privilege" "USAGE" "Lcom/example/grantwell/grantwell/catalog/Privilege;" (.ref aU)) (A_aS : Exa Z Z.heap aS "com/example/grantwell/grantwell/catalog/Privilege") (F_aS : Fld Z Z.heap aS "com/example/grantwell/grantwell/catalog/Privilege" "onColumns" "Z" (.int (1 : Int32))) (A_aI : Exa Z Z.heap aI "com/example/grantwell/grantwell/catalog/Privilege") (F_aI : Fld Z Z.heap aI "com/example/grantwell/grantwell/catalog/Privilege" "onColumns" "Z" (.int (1 : Int32))) (A_aT : Exa Z Z.heap aT "com/example/grantwell/grantwell/catalog/Privilege") (F_aT : Fld Z Z.heap aT "com/example/grantwell/grantwell/catalog/Privilege" "onColumns" "Z" (.int (1 : Int32))) (A_aR : Exa Z Z.heap aR "com/example/grantwell/grantwell/catalog/Privilege") (F_aR : Fld Z Z.heap aR "com/example/grantwell/grantwell/catalog/Privilege" "onColumns" "Z" (.int (1 : Int32))) (naSD : aS ≠ aD) (naSU : aS ≠ aU) (naID : aI ≠ aD) (naIU : aI ≠ aU) (naTD : aT ≠ aD) (naTU : aT ≠ aU) (naRD : aR ≠ aD) (naRU : aR ≠ aU) (nUD : aU ≠ aD) :
    ConHW l Z EL tables_1 x code maxLocals ret room_1 #[(.int p0), (.int p1), (.int p2), (.int p3)] h0 (fun v h L => v = some (.int 1) ∧ Fr n0 L) := by
  refine conOfH (plainFor_of_name pn_com_example_grantwell_grantwell_catalog_ActionIsOnColumnPinLaw) ?_
  intro p e s m below mth cc s₁ X0 hx hby hml hown hnm hret hlk hZ e0 hS RR0
  have N0 := Fr.nil n0
  have hEL := elW hw
  refine Fin.came (castTop (t := _) (by first | (simp [entryFrame, mkF, argsToLocals, Value.category, maxLocals]; done) | rfl) (Steps.refl _) : Steps p.tables e below (s₁.setTop (entryFrame m #[(.int p0), (.int p1), (.int p2), (.int p3)] maxLocals)) (s₁.setTop (mkF m 0 #[.val (.int p0), .val (.int p1), .val (.int p2), .val (.int p3), .unset, .unset, .unset, .unset, .unset, .unset, .unset] []))) ?_
  show Fin _ p e below s _ _ _ s₁ (mkF m 0 #[.val (.int p0), .val (.int p1), .val (.int p2), .val (.int p3), .unset, .unset, .unset, .unset, .unset, .unset, .unset] [])
  refine Fin.go (fun _ k => XS.iloadN X0.here hx rfl (hb hby at_0) rfl k) ?_
  show Fin _ p e below s _ _ _ s₁ (mkF m 1 #[.val (.int p0), .val (.int p1), .val (.int p2), .val (.int p3), .unset, .unset, .unset, .unset, .unset, .unset, .unset] [(.int p0)])
  obtain ⟨v11, T11, L11, X11, q11, st11⟩ := callSt X0 hx hZ (y := (⟨"com/example/grantwell/grantwell/catalog/ActionIsOnColumnPinLaw", "pick", "(I)Lcom/example/grantwell/grantwell/catalog/Privilege;"⟩ : MethodName)) hown (hw _ w_0) (hw _ w_1) (hw _ w_2) (hw _ w_3) (by decide) (W := 0) (rmPick l Z a0 hw n0 h0 O p0 aS aI aT aD aR aU S_aS S_aI S_aT S_aD S_aR S_aU A_aS F_aS A_aI F_aI A_aT F_aT A_aR F_aR naSD naSU naID naIU naTD naTU naRD naRU) e0 (by decide) (by decide) (by decide) (by decide) (g := (mkF m 1 #[.val (.int p0), .val (.int p1), .val (.int p2), .val (.int p3), .unset, .unset, .unset, .unset, .unset, .unset, .unset] [(.int p0)])) rfl (by rw [hml]; rfl) (argsL := [(.int p0)]) (rest := []) (lenOf pd_oIcLcom_example_grantwell_grantwell_catalog_Privilege_ rfl) rfl (by show 2 * 0 + _ ≤ _; exact Nat.le_of_eq rfl) (hb hby at_1)
  obtain ⟨pr, rfl, e11, rfl, hd⟩ := q11
  have N11 := Fr.app N0 (Fr.nil n0)
  refine Fin.go st11 ?_
  rcases hd with ⟨nPD, nPU, AP, FP⟩ | rfl | rfl
  · show Fin _ p e below s _ _ _ T11 (mkF m 4 #[.val (.int p0), .val (.int p1), .val (.int p2), .val (.int p3), .unset, .unset, .unset, .unset, .unset, .unset, .unset] [(.ref pr)])
    refine Fin.go (fun _ k => XS.astore X11.here hx rfl (hb hby at_4) rfl rfl (l' := #[.val (.int p0), .val (.int p1), .val (.int p2), .val (.int p3), .val (.ref pr), .unset, .unset, .unset, .unset, .unset, .unset]) rfl k) ?_
    show Fin _ p e below s _ _ _ T11 (mkF m 6 #[.val (.int p0), .val (.int p1), .val (.int p2), .val (.int p3), .val (.ref pr), .unset, .unset, .unset, .unset, .unset, .unset] [])
    refine Fin.go (fun _ k => XS.aload X11.here hx rfl (hb hby at_6) rfl rfl k) ?_
    show Fin _ p e below s _ _ _ T11 (mkF m 8 #[.val (.int p0), .val (.int p1), .val (.int p2), .val (.int p3), .val (.ref pr), .unset, .unset, .unset, .unset, .unset, .unset] [(.ref pr)])
    obtain ⟨T12, X12, e12, st12⟩ := getS2 X11 hx hZ hown (host := "") (Or.inl (hw _ w_8)) Via.refl e11 (S_aD.ext O.2) (g := (mkF m 8 #[.val (.int p0), .val (.int p1), .val (.int p2), .val (.int p3), .val (.ref pr), .unset, .unset, .unset, .unset, .unset, .unset] [(.ref pr)])) rfl (hb hby at_8)
    refine Fin.go st12 ?_
    show Fin _ p e below s _ _ _ T12 (mkF m 11 #[.val (.int p0), .val (.int p1), .val (.int p2), .val (.int p3), .val (.ref pr), .unset, .unset, .unset, .unset, .unset, .unset] [(.ref aD), (.ref pr)])
    refine Fin.go (fun _ k => XT.acmpNo X12.here hx rfl (hb hby at_11) rfl rfl rfl (XT.aa_eq_f (fun q => nPD (Value.ref.inj q))) k) ?_
    show Fin _ p e below s _ _ _ T12 (mkF m 14 #[.val (.int p0), .val (.int p1), .val (.int p2), .val (.int p3), .val (.ref pr), .unset, .unset, .unset, .unset, .unset, .unset] [])
    refine Fin.go (fun _ k => XS.aload X12.here hx rfl (hb hby at_14) rfl rfl k) ?_
    show Fin _ p e below s _ _ _ T12 (mkF m 16 #[.val (.int p0), .val (.int p1), .val (.int p2), .val (.int p3), .val (.ref pr), .unset, .unset, .unset, .unset, .unset, .unset] [(.ref pr)])
    obtain ⟨T13, X13, e13, st13⟩ := getS2 X12 hx hZ hown (host := "") (Or.inl (hw _ w_10)) Via.refl e12 (S_aU.ext O.2) (g := (mkF m 16 #[.val (.int p0), .val (.int p1), .val (.int p2), .val (.int p3), .val (.ref pr), .unset, .unset, .unset, .unset, .unset, .unset] [(.ref pr)])) rfl (hb hby at_16)
    refine Fin.go st13 ?_
    show Fin _ p e below s _ _ _ T13 (mkF m 19 #[.val (.int p0), .val (.int p1), .val (.int p2), .val (.int p3), .val (.ref pr), .unset, .unset, .unset, .unset, .unset, .unset] [(.ref aU), (.ref pr)])
    refine Fin.go (fun _ k => XT.acmpNo X13.here hx rfl (hb hby at_19) rfl rfl rfl (XT.aa_eq_f (fun q => nPU (Value.ref.inj q))) k) ?_
    show Fin _ p e below s _ _ _ T13 (mkF m 22 #[.val (.int p0), .val (.int p1), .val (.int p2), .val (.int p3), .val (.ref pr), .unset, .unset, .unset, .unset, .unset, .unset] [])
    refine Fin.go (fun _ k => XS.iconst X13.here hx rfl (hb hby at_22) k) ?_
    show Fin _ p e below s _ _ _ T13 (mkF m 23 #[.val (.int p0), .val (.int p1), .val (.int p2), .val (.int p3), .val (.ref pr), .unset, .unset, .unset, .unset, .unset, .unset] [(.int (1 : Int32))])
    refine Fin.go (fun _ k => XS.goto X13.here hx rfl (pc0 := 23) (pc' := 27) rfl (hb hby at_23) (by decide) (by decide) k) ?_
    show Fin _ p e below s _ _ _ T13 (mkF m 27 #[.val (.int p0), .val (.int p1), .val (.int p2), .val (.int p3), .val (.ref pr), .unset, .unset, .unset, .unset, .unset, .unset] [(.int (1 : Int32))])
    refine Fin.go (fun _ k => XS.istore X13.here hx rfl (hb hby at_27) rfl (l' := #[.val (.int p0), .val (.int p1), .val (.int p2), .val (.int p3), .val (.ref pr), .val (.int (1 : Int32)), .unset, .unset, .unset, .unset, .unset]) rfl k) ?_
    show Fin _ p e below s _ _ _ T13 (mkF m 29 #[.val (.int p0), .val (.int p1), .val (.int p2), .val (.int p3), .val (.ref pr), .val (.int (1 : Int32)), .unset, .unset, .unset, .unset, .unset] [])
    refine Fin.go (fun _ k => XS.iloadN X13.here hx rfl (hb hby at_29) rfl k) ?_
    show Fin _ p e below s _ _ _ T13 (mkF m 30 #[.val (.int p0), .val (.int p1), .val (.int p2), .val (.int p3), .val (.ref pr), .val (.int (1 : Int32)), .unset, .unset, .unset, .unset, .unset] [(.int p1)])
    refine Fin.go (fun _ k => XS.iconst X13.here hx rfl (hb hby at_30) k) ?_
    show Fin _ p e below s _ _ _ T13 (mkF m 31 #[.val (.int p0), .val (.int p1), .val (.int p2), .val (.int p3), .val (.ref pr), .val (.int (1 : Int32)), .unset, .unset, .unset, .unset, .unset] [(.int (1 : Int32)), (.int p1)])
    refine Fin.go (fun _ k => XS.iand X13.here hx rfl (hb hby at_31) rfl k) ?_
    show Fin _ p e below s _ _ _ T13 (mkF m 32 #[.val (.int p0), .val (.int p1), .val (.int p2), .val (.int p3), .val (.ref pr), .val (.int (1 : Int32)), .unset, .unset, .unset, .unset, .unset] [(.int (p1 &&& (1 : Int32)))])
    by_cases c32 : (p1 &&& (1 : Int32)) = 0
    · refine Fin.go (fun _ k => XS.ifYes X13.here hx rfl (pc0 := 32) (pc' := 44) rfl (hb hby at_32) rfl (XT.i0_eq_t c32) (by decide) (by decide) k) ?_
      show Fin _ p e below s _ _ _ T13 (mkF m 44 #[.val (.int p0), .val (.int p1), .val (.int p2), .val (.int p3), .val (.ref pr), .val (.int (1 : Int32)), .unset, .unset, .unset, .unset, .unset] [])
      refine Fin.go (fun _ k => XS.iconst X13.here hx rfl (hb hby at_44) k) ?_
      show Fin _ p e below s _ _ _ T13 (mkF m 45 #[.val (.int p0), .val (.int p1), .val (.int p2), .val (.int p3), .val (.ref pr), .val (.int (1 : Int32)), .unset, .unset, .unset, .unset, .unset] [(.int (0 : Int32))])
      refine Fin.go (fun _ k => XS.istore X13.here hx rfl (hb hby at_45) rfl (l' := #[.val (.int p0), .val (.int p1), .val (.int p2), .val (.int p3), .val (.ref pr), .val (.int (1 : Int32)), .val (.int (0 : Int32)), .unset, .unset, .unset, .unset]) rfl k) ?_
      show Fin _ p e below s _ _ _ T13 (mkF m 47 #[.val (.int p0), .val (.int p1), .val (.int p2), .val (.int p3), .val (.ref pr), .val (.int (1 : Int32)), .val (.int (0 : Int32)), .unset, .unset, .unset, .unset] [])
      refine Fin.go (fun _ k => XS.aconstNull X13.here hx rfl (hb hby at_47) k) ?_
      show Fin _ p e below s _ _ _ T13 (mkF m 48 #[.val (.int p0), .val (.int p1), .val (.int p2), .val (.int p3), .val (.ref pr), .val (.int (1 : Int32)), .val (.int (0 : Int32)), .unset, .unset, .unset, .unset] [.null])
      refine Fin.go (fun _ k => XS.astore X13.here hx rfl (hb hby at_48) rfl rfl (l' := #[.val (.int p0), .val (.int p1), .val (.int p2), .val (.int p3), .val (.ref pr), .val (.int (1 : Int32)), .val (.int (0 : Int32)), .val .null, .unset, .unset, .unset]) rfl k) ?_
      show Fin _ p e below s _ _ _ T13 (mkF m 50 #[.val (.int p0), .val (.int p1), .val (.int p2), .val (.int p3), .val (.ref pr), .val (.int (1 : Int32)), .val (.int (0 : Int32)), .val .null, .unset, .unset, .unset] [])
      refine Fin.go (fun _ k => XS.iload X13.here hx rfl (hb hby at_50) rfl k) ?_
      show Fin _ p e below s _ _ _ T13 (mkF m 52 #[.val (.int p0), .val (.int p1), .val (.int p2), .val (.int p3), .val (.ref pr), .val (.int (1 : Int32)), .val (.int (0 : Int32)), .val .null, .unset, .unset, .unset] [(.int (0 : Int32))])
      refine Fin.go (fun _ k => XS.ifYes X13.here hx rfl (pc0 := 52) (pc' := 147) rfl (hb hby at_52) rfl (XT.i0_eq_t (by decide)) (by decide) (by decide) k) ?_
      show Fin _ p e below s _ _ _ T13 (mkF m 147 #[.val (.int p0), .val (.int p1), .val (.int p2), .val (.int p3), .val (.ref pr), .val (.int (1 : Int32)), .val (.int (0 : Int32)), .val .null, .unset, .unset, .unset] [])
      obtain ⟨T14, h14, X14, e14, E14, A14, D14, U14, st14⟩ := newO X13 hx hZ hown (hw _ w_34) (hw _ w_35) (hw _ w_36) e13 (g := (mkF m 147 #[.val (.int p0), .val (.int p1), .val (.int p2), .val (.int p3), .val (.ref pr), .val (.int (1 : Int32)), .val (.int (0 : Int32)), .val .null, .unset, .unset, .unset] [])) rfl (hb hby at_147) (by decide) (by decide)
      obtain ⟨a14, g14⟩ : ∃ z, z = h0.size := ⟨_, rfl⟩
      rw [← g14] at A14 D14 U14 st14
      refine Fin.go st14 ?_
      have O14 := O.ext E14
      have hk14 := Nat.le_trans (Nat.zero_le _) E14.1
      have RR14 := RR0.trans (CHr.ext E14 RR0.1)
      have n14 : n0 ≤ a14 := by have := O.2.1; have := O.1; omega
      have F14_privilege : Fld Z h14 a14 "com/example/grantwell/grantwell/catalog/Action" "privilege" "Lcom/example/grantwell/grantwell/catalog/Privilege;" .null := D14 (Or.inr (hw _ w_59)) (ty := (.object "com/example/grantwell/grantwell/catalog/Privilege")) (by decide)
      have F14_column : Fld Z h14 a14 "com/example/grantwell/grantwell/catalog/Action" "column" "Ljava/lang/String;" .null := D14 (Or.inr (hw _ w_61)) (ty := (.object "java/lang/String")) (by decide)
      show Fin _ p e below s _ _ _ T14 (mkF m 150 #[.val (.int p0), .val (.int p1), .val (.int p2), .val (.int p3), .val (.ref pr), .val (.int (1 : Int32)), .val (.int (0 : Int32)), .val .null, .unset, .unset, .unset] [(.ref a14)])
      refine Fin.go (fun _ k => XS.dup X14.here hx rfl (hb hby at_150) rfl rfl k) ?_
      show Fin _ p e below s _ _ _ T14 (mkF m 151 #[.val (.int p0), .val (.int p1), .val (.int p2), .val (.int p3), .val (.ref pr), .val (.int (1 : Int32)), .val (.int (0 : Int32)), .val .null, .unset, .unset, .unset] [(.ref a14), (.ref a14)])
      refine Fin.go (fun _ k => XS.aload X14.here hx rfl (hb hby at_151) rfl rfl k) ?_
      show Fin _ p e below s _ _ _ T14 (mkF m 153 #[.val (.int p0), .val (.int p1), .val (.int p2), .val (.int p3), .val (.ref pr), .val (.int (1 : Int32)), .val (.int (0 : Int32)), .val .null, .unset, .unset, .unset] [(.ref pr), (.ref a14), (.ref a14)])
      refine Fin.go (fun _ k => XS.aload X14.here hx rfl (hb hby at_153) rfl rfl k) ?_
      show Fin _ p e below s _ _ _ T14 (mkF m 155 #[.val (.int p0), .val (.int p1), .val (.int p2), .val (.int p3), .val (.ref pr), .val (.int (1 : Int32)), .val (.int (0 : Int32)), .val .null, .unset, .unset, .unset] [.null, (.ref pr), (.ref a14), (.ref a14)])
      obtain ⟨v15, T15, L15, X15, hS15, hZ15, hown15, RC15, q15, st15⟩ := callCtH X14 hx hZ (y := (⟨"com/example/grantwell/grantwell/catalog/Action", "<init>", "(Lcom/example/grantwell/grantwell/catalog/Privilege;Ljava/lang/String;)V"⟩ : MethodName)) rfl hown (hw _ w_37) (hw _ w_38) (hw _ w_36) (hw _ w_39) (by decide) (W := 1) (rmActN l Z a0 hw n0 h14 O14 a14 pr A14 F14_privilege F14_column n14) e14 hS hk14 hEL RR14.1 (by decide) (by decide) (by decide) (by decide) (g := (mkF m 155 #[.val (.int p0), .val (.int p1), .val (.int p2), .val (.int p3), .val (.ref pr), .val (.int (1 : Int32)), .val (.int (0 : Int32)), .val .null, .unset, .unset, .unset] [.null, (.ref pr), (.ref a14), (.ref a14)])) rfl (by rw [hml]; rfl) (a := a14) (argsL := [(.ref pr), .null]) (rest := [(.ref a14)]) (lenOf pd_oLcom_example_grantwell_grantwell_catalog_Privilege_Ljava_lang_String_cV rfl) rfl (by show 2 * 0 + _ ≤ _; exact Nat.le_of_eq rfl) (hb hby at_155)
      obtain ⟨rfl, Nq15, Kq15, A15, F15⟩ := q15
      have N15 := Fr.app N11 Nq15
      have O15 := O14.keep Kq15 (allS n14 all0)
      have RR15 := RR14.trans RC15
      refine Fin.go st15 ?_
      show Fin _ p e below s _ _ _ T15 (mkF m 158 #[.val (.int p0), .val (.int p1), .val (.int p2), .val (.int p3), .val (.ref pr), .val (.int (1 : Int32)), .val (.int (0 : Int32)), .val .null, .unset, .unset, .unset] [(.ref a14)])
      refine Fin.go (fun _ k => XS.astore X15.here hx rfl (hb hby at_158) rfl rfl (l' := #[.val (.int p0), .val (.int p1), .val (.int p2), .val (.int p3), .val (.ref pr), .val (.int (1 : Int32)), .val (.int (0 : Int32)), .val .null, .val (.ref a14), .unset, .unset]) rfl k) ?_
      show Fin _ p e below s _ _ _ T15 (mkF m 160 #[.val (.int p0), .val (.int p1), .val (.int p2), .val (.int p3), .val (.ref pr), .val (.int (1 : Int32)), .val (.int (0 : Int32)), .val .null, .val (.ref a14), .unset, .unset] [])
      refine Fin.go (fun _ k => XS.aload X15.here hx rfl (hb hby at_160) rfl rfl k) ?_
      show Fin _ p e below s _ _ _ T15 (mkF m 162 #[.val (.int p0), .val (.int p1), .val (.int p2), .val (.int p3), .val (.ref pr), .val (.int (1 : Int32)), .val (.int (0 : Int32)), .val .null, .val (.ref a14), .unset, .unset] [(.ref a14)])
      obtain ⟨v16, T16, L16, X16, q16, st16⟩ := callVt X15 hx hZ15 (y := (⟨"com/example/grantwell/grantwell/catalog/Action", "isOnColumn", "()Z"⟩ : MethodName)) hown15 (hw _ w_62) (hw _ w_63) (hw _ w_65) (hw _ w_64) (hw _ w_36) (hw _ w_66) (by decide) (W := 0) (rmColN l Z a0 hw n0 T15.heap O15 a14 0 F15) (rfl : T15.heap = T15.heap) A15 (by decide) (by decide) (by decide) (by decide) (g := (mkF m 162 #[.val (.int p0), .val (.int p1), .val (.int p2), .val (.int p3), .val (.ref pr), .val (.int (1 : Int32)), .val (.int (0 : Int32)), .val .null, .val (.ref a14), .unset, .unset] [(.ref a14)])) rfl (by rw [hml]; rfl) (argsL := []) (rest := []) (lenOf pd_ocZ rfl) rfl (by show 2 * 0 + _ ≤ _; exact Nat.le_of_eq rfl) (hb hby at_162)
      obtain ⟨rfl, e16, rfl⟩ := q16
      have N16 := Fr.app N15 (Fr.nil n0)
      refine Fin.go st16 ?_
      show Fin _ p e below s _ _ _ T16 (mkF m 165 #[.val (.int p0), .val (.int p1), .val (.int p2), .val (.int p3), .val (.ref pr), .val (.int (1 : Int32)), .val (.int (0 : Int32)), .val .null, .val (.ref a14), .unset, .unset] [(.int (0 : Int32))])
      refine Fin.go (fun _ k => XS.iload X16.here hx rfl (hb hby at_165) rfl k) ?_
      show Fin _ p e below s _ _ _ T16 (mkF m 167 #[.val (.int p0), .val (.int p1), .val (.int p2), .val (.int p3), .val (.ref pr), .val (.int (1 : Int32)), .val (.int (0 : Int32)), .val .null, .val (.ref a14), .unset, .unset] [(.int (0 : Int32)), (.int (0 : Int32))])
      refine Fin.go (fun _ k => XS.icmpNo X16.here hx rfl (hb hby at_167) rfl (XT.ii_ne_f (by decide)) k) ?_
      show Fin _ p e below s _ _ _ T16 (mkF m 170 #[.val (.int p0), .val (.int p1), .val (.int p2), .val (.int p3), .val (.ref pr), .val (.int (1 : Int32)), .val (.int (0 : Int32)), .val .null, .val (.ref a14), .unset, .unset] [])
      refine Fin.go (fun _ k => XS.iconst X16.here hx rfl (hb hby at_170) k) ?_
      show Fin _ p e below s _ _ _ T16 (mkF m 171 #[.val (.int p0), .val (.int p1), .val (.int p2), .val (.int p3), .val (.ref pr), .val (.int (1 : Int32)), .val (.int (0 : Int32)), .val .null, .val (.ref a14), .unset, .unset] [(.int (1 : Int32))])
      refine Fin.go (fun _ k => XS.goto X16.here hx rfl (pc0 := 171) (pc' := 175) rfl (hb hby at_171) (by decide) (by decide) k) ?_
      show Fin _ p e below s _ _ _ T16 (mkF m 175 #[.val (.int p0), .val (.int p1), .val (.int p2), .val (.int p3), .val (.ref pr), .val (.int (1 : Int32)), .val (.int (0 : Int32)), .val .null, .val (.ref a14), .unset, .unset] [(.int (1 : Int32))])
      refine Fin.go (fun _ k => XS.istore X16.here hx rfl (hb hby at_175) rfl (l' := #[.val (.int p0), .val (.int p1), .val (.int p2), .val (.int p3), .val (.ref pr), .val (.int (1 : Int32)), .val (.int (0 : Int32)), .val .null, .val (.ref a14), .val (.int (1 : Int32)), .unset]) rfl k) ?_
      show Fin _ p e below s _ _ _ T16 (mkF m 177 #[.val (.int p0), .val (.int p1), .val (.int p2), .val (.int p3), .val (.ref pr), .val (.int (1 : Int32)), .val (.int (0 : Int32)), .val .null, .val (.ref a14), .val (.int (1 : Int32)), .unset] [])
      refine Fin.go (fun _ k => XS.aload X16.here hx rfl (hb hby at_177) rfl rfl k) ?_
      show Fin _ p e below s _ _ _ T16 (mkF m 179 #[.val (.int p0), .val (.int p1), .val (.int p2), .val (.int p3), .val (.ref pr), .val (.int (1 : Int32)), .val (.int (0 : Int32)), .val .null, .val (.ref a14), .val (.int (1 : Int32)), .unset] [(.ref pr)])
      obtain ⟨v17, T17, L17, X17, hS17, hZ17, hown17, RC17, q17, st17⟩ := callStH X16 hx hZ15 (y := (⟨"com/example/grantwell/grantwell/catalog/Action", "onTable", "(Lcom/example/grantwell/grantwell/catalog/Privilege;)Lcom/example/grantwell/grantwell/catalog/Action;"⟩ : MethodName)) hown15 (hw _ w_67) (hw _ w_68) (hw _ w_36) (hw _ w_69) (by decide) (W := 0) (rmOT l Z a0 hw n0 T15.heap O15 pr) e16 hS15 (Nat.le_refl T15.heap.size) hEL RR15.1 (by decide) (by decide) (by decide) (by decide) (g := (mkF m 179 #[.val (.int p0), .val (.int p1), .val (.int p2), .val (.int p3), .val (.ref pr), .val (.int (1 : Int32)), .val (.int (0 : Int32)), .val .null, .val (.ref a14), .val (.int (1 : Int32)), .unset] [(.ref pr)])) rfl (by rw [hml]; rfl) (argsL := [(.ref pr)]) (rest := []) (lenOf pd_oLcom_example_grantwell_grantwell_catalog_Privilege_cLcom_example_grantwell_grantwell_catalog_Action_ rfl) rfl (by show 2 * 0 + _ ≤ _; exact Nat.le_of_eq rfl) (hb hby at_179)
      obtain ⟨o17, rfl, Nq17, Kq17, A17, F17⟩ := q17
      have N17 := Fr.app N16 Nq17
      have O17 := O15.keep Kq17 all0
      have RR17 := RR15.trans RC17
      refine Fin.go st17 ?_
      show Fin _ p e below s _ _ _ T17 (mkF m 182 #[.val (.int p0), .val (.int p1), .val (.int p2), .val (.int p3), .val (.ref pr), .val (.int (1 : Int32)), .val (.int (0 : Int32)), .val .null, .val (.ref a14), .val (.int (1 : Int32)), .unset] [(.ref o17)])
      refine Fin.go (fun _ k => XS.astore X17.here hx rfl (hb hby at_182) rfl rfl (l' := #[.val (.int p0), .val (.int p1), .val (.int p2), .val (.int p3), .val (.ref pr), .val (.int (1 : Int32)), .val (.int (0 : Int32)), .val .null, .val (.ref a14), .val (.int (1 : Int32)), .val (.ref o17)]) rfl k) ?_
      show Fin _ p e below s _ _ _ T17 (mkF m 184 #[.val (.int p0), .val (.int p1), .val (.int p2), .val (.int p3), .val (.ref pr), .val (.int (1 : Int32)), .val (.int (0 : Int32)), .val .null, .val (.ref a14), .val (.int (1 : Int32)), .val (.ref o17)] [])
      refine Fin.go (fun _ k => XS.iload X17.here hx rfl (hb hby at_184) rfl k) ?_
      show Fin _ p e below s _ _ _ T17 (mkF m 186 #[.val (.int p0), .val (.int p1), .val (.int p2), .val (.int p3), .val (.ref pr), .val (.int (1 : Int32)), .val (.int (0 : Int32)), .val .null, .val (.ref a14), .val (.int (1 : Int32)), .val (.ref o17)] [(.int (1 : Int32))])
      refine Fin.go (fun _ k => XS.ifNo X17.here hx rfl (hb hby at_186) rfl (XT.i0_eq_f (by decide)) k) ?_
      show Fin _ p e below s _ _ _ T17 (mkF m 189 #[.val (.int p0), .val (.int p1), .val (.int p2), .val (.int p3), .val (.ref pr), .val (.int (1 : Int32)), .val (.int (0 : Int32)), .val .null, .val (.ref a14), .val (.int (1 : Int32)), .val (.ref o17)] [])
      refine Fin.go (fun _ k => XS.aload X17.here hx rfl (hb hby at_189) rfl rfl k) ?_
      show Fin _ p e below s _ _ _ T17 (mkF m 191 #[.val (.int p0), .val (.int p1), .val (.int p2), .val (.int p3), .val (.ref pr), .val (.int (1 : Int32)), .val (.int (0 : Int32)), .val .null, .val (.ref a14), .val (.int (1 : Int32)), .val (.ref o17)] [(.ref o17)])
      obtain ⟨v18, T18, L18, X18, q18, st18⟩ := callVt X17 hx hZ17 (y := (⟨"com/example/grantwell/grantwell/catalog/Action", "isOnColumn", "()Z"⟩ : MethodName)) hown17 (hw _ w_62) (hw _ w_63) (hw _ w_65) (hw _ w_64) (hw _ w_36) (hw _ w_66) (by decide) (W := 0) (rmColN l Z a0 hw n0 T17.heap O17 o17 0 F17) (rfl : T17.heap = T17.heap) A17 (by decide) (by decide) (by decide) (by decide) (g := (mkF m 191 #[.val (.int p0), .val (.int p1), .val (.int p2), .val (.int p3), .val (.ref pr), .val (.int (1 : Int32)), .val (.int (0 : Int32)), .val .null, .val (.ref a14), .val (.int (1 : Int32)), .val (.ref o17)] [(.ref o17)])) rfl (by rw [hml]; rfl) (argsL := []) (rest := []) (lenOf pd_ocZ rfl) rfl (by show 2 * 0 + _ ≤ _; exact Nat.le_of_eq rfl) (hb hby at_191)
      obtain ⟨rfl, e18, rfl⟩ := q18
      have N18 := Fr.app N17 (Fr.nil n0)
      refine Fin.go st18 ?_
      show Fin _ p e below s _ _ _ T18 (mkF m 194 #[.val (.int p0), .val (.int p1), .val (.int p2), .val (.int p3), .val (.ref pr), .val (.int (1 : Int32)), .val (.int (0 : Int32)), .val .null, .val (.ref a14), .val (.int (1 : Int32)), .val (.ref o17)] [(.int (0 : Int32))])
      refine Fin.go (fun _ k => XS.ifNo X18.here hx rfl (hb hby at_194) rfl (XT.i0_ne_f (by decide)) k) ?_
      show Fin _ p e below s _ _ _ T18 (mkF m 197 #[.val (.int p0), .val (.int p1), .val (.int p2), .val (.int p3), .val (.ref pr), .val (.int (1 : Int32)), .val (.int (0 : Int32)), .val .null, .val (.ref a14), .val (.int (1 : Int32)), .val (.ref o17)] [])
      refine Fin.go (fun _ k => XS.iconst X18.here hx rfl (hb hby at_197) k) ?_
      show Fin _ p e below s _ _ _ T18 (mkF m 198 #[.val (.int p0), .val (.int p1), .val (.int p2), .val (.int p3), .val (.ref pr), .val (.int (1 : Int32)), .val (.int (0 : Int32)), .val .null, .val (.ref a14), .val (.int (1 : Int32)), .val (.ref o17)] [(.int (1 : Int32))])
      refine Fin.go (fun _ k => XS.goto X18.here hx rfl (pc0 := 198) (pc' := 202) rfl (hb hby at_198) (by decide) (by decide) k) ?_
      show Fin _ p e below s _ _ _ T18 (mkF m 202 #[.val (.int p0), .val (.int p1), .val (.int p2), .val (.int p3), .val (.ref pr), .val (.int (1 : Int32)), .val (.int (0 : Int32)), .val .null, .val (.ref a14), .val (.int (1 : Int32)), .val (.ref o17)] [(.int (1 : Int32))])
      exact Fin.leaveH X18 hS17 (Nat.le_refl T17.heap.size) hZ17 hEL e18 RR17 hlk (v := some (.int (nar .boolean (1 : Int32)))) (fun h => by rw [hret] at h; cases h) (by decide) (by decide) ⟨rfl, N18⟩ (fun fs hr => retN X18 hx (t := .boolean) hret (by simp) (hb hby at_202) hr)
    · refine Fin.go (fun _ k => XS.ifNo X13.here hx rfl (hb hby at_32) rfl (XT.i0_eq_f c32) k) ?_
      show Fin _ p e below s _ _ _ T13 (mkF m 35 #[.val (.int p0), .val (.int p1), .val (.int p2), .val (.int p3), .val (.ref pr), .val (.int (1 : Int32)), .unset, .unset, .unset, .unset, .unset] [])
      refine Fin.go (fun _ k => XS.iload X13.here hx rfl (hb hby at_35) rfl k) ?_
      show Fin _ p e below s _ _ _ T13 (mkF m 37 #[.val (.int p0), .val (.int p1), .val (.int p2), .val (.int p3), .val (.ref pr), .val (.int (1 : Int32)), .unset, .unset, .unset, .unset, .unset] [(.int (1 : Int32))])
      refine Fin.go (fun _ k => XS.ifNo X13.here hx rfl (hb hby at_37) rfl (XT.i0_eq_f (by decide)) k) ?_
      show Fin _ p e below s _ _ _ T13 (mkF m 40 #[.val (.int p0), .val (.int p1), .val (.int p2), .val (.int p3), .val (.ref pr), .val (.int (1 : Int32)), .unset, .unset, .unset, .unset, .unset] [])
      refine Fin.go (fun _ k => XS.iconst X13.here hx rfl (hb hby at_40) k) ?_
      show Fin _ p e below s _ _ _ T13 (mkF m 41 #[.val (.int p0), .val (.int p1), .val (.int p2), .val (.int p3), .val (.ref pr), .val (.int (1 : Int32)), .unset, .unset, .unset, .unset, .unset] [(.int (1 : Int32))])
      refine Fin.go (fun _ k => XS.goto X13.here hx rfl (pc0 := 41) (pc' := 45) rfl (hb hby at_41) (by decide) (by decide) k) ?_
      show Fin _ p e below s _ _ _ T13 (mkF m 45 #[.val (.int p0), .val (.int p1), .val (.int p2), .val (.int p3), .val (.ref pr), .val (.int (1 : Int32)), .unset, .unset, .unset, .unset, .unset] [(.int (1 : Int32))])
      refine Fin.go (fun _ k => XS.istore X13.here hx rfl (hb hby at_45) rfl (l' := #[.val (.int p0), .val (.int p1), .val (.int p2), .val (.int p3), .val (.ref pr), .val (.int (1 : Int32)), .val (.int (1 : Int32)), .unset, .unset, .unset, .unset]) rfl k) ?_
      show Fin _ p e below s _ _ _ T13 (mkF m 47 #[.val (.int p0), .val (.int p1), .val (.int p2), .val (.int p3), .val (.ref pr), .val (.int (1 : Int32)), .val (.int (1 : Int32)), .unset, .unset, .unset, .unset] [])
      refine Fin.go (fun _ k => XS.aconstNull X13.here hx rfl (hb hby at_47) k) ?_
      show Fin _ p e below s _ _ _ T13 (mkF m 48 #[.val (.int p0), .val (.int p1), .val (.int p2), .val (.int p3), .val (.ref pr), .val (.int (1 : Int32)), .val (.int (1 : Int32)), .unset, .unset, .unset, .unset] [.null])
      refine Fin.go (fun _ k => XS.astore X13.here hx rfl (hb hby at_48) rfl rfl (l' := #[.val (.int p0), .val (.int p1), .val (.int p2), .val (.int p3), .val (.ref pr), .val (.int (1 : Int32)), .val (.int (1 : Int32)), .val .null, .unset, .unset, .unset]) rfl k) ?_
      show Fin _ p e below s _ _ _ T13 (mkF m 50 #[.val (.int p0), .val (.int p1), .val (.int p2), .val (.int p3), .val (.ref pr), .val (.int (1 : Int32)), .val (.int (1 : Int32)), .val .null, .unset, .unset, .unset] [])
      refine Fin.go (fun _ k => XS.iload X13.here hx rfl (hb hby at_50) rfl k) ?_
      show Fin _ p e below s _ _ _ T13 (mkF m 52 #[.val (.int p0), .val (.int p1), .val (.int p2), .val (.int p3), .val (.ref pr), .val (.int (1 : Int32)), .val (.int (1 : Int32)), .val .null, .unset, .unset, .unset] [(.int (1 : Int32))])
      refine Fin.go (fun _ k => XS.ifNo X13.here hx rfl (hb hby at_52) rfl (XT.i0_eq_f (by decide)) k) ?_
      show Fin _ p e below s _ _ _ T13 (mkF m 55 #[.val (.int p0), .val (.int p1), .val (.int p2), .val (.int p3), .val (.ref pr), .val (.int (1 : Int32)), .val (.int (1 : Int32)), .val .null, .unset, .unset, .unset] [])
      refine Fin.go (fun _ k => XS.iloadN X13.here hx rfl (hb hby at_55) rfl k) ?_
      show Fin _ p e below s _ _ _ T13 (mkF m 56 #[.val (.int p0), .val (.int p1), .val (.int p2), .val (.int p3), .val (.ref pr), .val (.int (1 : Int32)), .val (.int (1 : Int32)), .val .null, .unset, .unset, .unset] [(.int p1)])
      refine Fin.go (fun _ k => XS.iconst X13.here hx rfl (hb hby at_56) k) ?_
      show Fin _ p e below s _ _ _ T13 (mkF m 57 #[.val (.int p0), .val (.int p1), .val (.int p2), .val (.int p3), .val (.ref pr), .val (.int (1 : Int32)), .val (.int (1 : Int32)), .val .null, .unset, .unset, .unset] [(.int (2 : Int32)), (.int p1)])
      refine Fin.go (fun _ k => XS.iand X13.here hx rfl (hb hby at_57) rfl k) ?_
      show Fin _ p e below s _ _ _ T13 (mkF m 58 #[.val (.int p0), .val (.int p1), .val (.int p2), .val (.int p3), .val (.ref pr), .val (.int (1 : Int32)), .val (.int (1 : Int32)), .val .null, .unset, .unset, .unset] [(.int (p1 &&& (2 : Int32)))])
      by_cases c58 : (p1 &&& (2 : Int32)) = 0
      · refine Fin.go (fun _ k => XS.ifYes X13.here hx rfl (pc0 := 58) (pc' := 76) rfl (hb hby at_58) rfl (XT.i0_eq_t c58) (by decide) (by decide) k) ?_
        show Fin _ p e below s _ _ _ T13 (mkF m 76 #[.val (.int p0), .val (.int p1), .val (.int p2), .val (.int p3), .val (.ref pr), .val (.int (1 : Int32)), .val (.int (1 : Int32)), .val .null, .unset, .unset, .unset] [])
        refine Fin.go (fun _ k => XS.iloadN X13.here hx rfl (hb hby at_76) rfl k) ?_
        show Fin _ p e below s _ _ _ T13 (mkF m 77 #[.val (.int p0), .val (.int p1), .val (.int p2), .val (.int p3), .val (.ref pr), .val (.int (1 : Int32)), .val (.int (1 : Int32)), .val .null, .unset, .unset, .unset] [(.int p1)])
        refine Fin.go (fun _ k => XS.iconst X13.here hx rfl (hb hby at_77) k) ?_
        show Fin _ p e below s _ _ _ T13 (mkF m 78 #[.val (.int p0), .val (.int p1), .val (.int p2), .val (.int p3), .val (.ref pr), .val (.int (1 : Int32)), .val (.int (1 : Int32)), .val .null, .unset, .unset, .unset] [(.int (4 : Int32)), (.int p1)])
        refine Fin.go (fun _ k => XS.iand X13.here hx rfl (hb hby at_78) rfl k) ?_
        show Fin _ p e below s _ _ _ T13 (mkF m 79 #[.val (.int p0), .val (.int p1), .val (.int p2), .val (.int p3), .val (.ref pr), .val (.int (1 : Int32)), .val (.int (1 : Int32)), .val .null, .unset, .unset, .unset] [(.int (p1 &&& (4 : Int32)))])
        by_cases c79 : (p1 &&& (4 : Int32)) = 0
        · refine Fin.go (fun _ k => XS.ifYes X13.here hx rfl (pc0 := 79) (pc' := 111) rfl (hb hby at_79) rfl (XT.i0_eq_t c79) (by decide) (by decide) k) ?_
          show Fin _ p e below s _ _ _ T13 (mkF m 111 #[.val (.int p0), .val (.int p1), .val (.int p2), .val (.int p3), .val (.ref pr), .val (.int (1 : Int32)), .val (.int (1 : Int32)), .val .null, .unset, .unset, .unset] [])
          refine Fin.go (fun _ k => XS.iconst X13.here hx rfl (hb hby at_111) k) ?_
          show Fin _ p e below s _ _ _ T13 (mkF m 112 #[.val (.int p0), .val (.int p1), .val (.int p2), .val (.int p3), .val (.ref pr), .val (.int (1 : Int32)), .val (.int (1 : Int32)), .val .null, .unset, .unset, .unset] [(.int (2 : Int32))])
          obtain ⟨T19, h19, k19, X19, e19, E19, A19, st19⟩ := newP X13 hx hZ (aty := .char) (hw _ w_15) e13 (g := (mkF m 112 #[.val (.int p0), .val (.int p1), .val (.int p2), .val (.int p3), .val (.ref pr), .val (.int (1 : Int32)), .val (.int (1 : Int32)), .val .null, .unset, .unset, .unset] [(.int (2 : Int32))])) rfl (hb hby at_112) rfl (by decide : ¬ ((2 : Int32) < (0 : Int32))) (cap := 2) (by decide) (by decide) (by decide) (by decide)
          obtain ⟨a19, g19⟩ : ∃ z, z = h0.size := ⟨_, rfl⟩
          rw [← g19] at A19 st19
          refine Fin.go st19 ?_
          have O19 := O.ext E19
          have hk19 := Nat.le_trans (Nat.zero_le _) E19.1
          have RR19 := RR0.trans (CHr.ext E19 RR0.1)
          have n19 : n0 ≤ a19 := by have := O.2.1; have := O.1; omega
          have V19 : Arv Z h19 a19 k19 .char (2 : Int32) [(.int (0 : Int32)), (.int (0 : Int32))] (.int (0 : Int32)) := (Arv.new A19 (by decide)).pad (pad_rep [] (.int (0 : Int32)) 2)
          show Fin _ p e below s _ _ _ T19 (mkF m 114 #[.val (.int p0), .val (.int p1), .val (.int p2), .val (.int p3), .val (.ref pr), .val (.int (1 : Int32)), .val (.int (1 : Int32)), .val .null, .unset, .unset, .unset] [(.ref a19)])
          refine Fin.go (fun _ k => XS.astore X19.here hx rfl (hb hby at_114) rfl rfl (l' := #[.val (.int p0), .val (.int p1), .val (.int p2), .val (.int p3), .val (.ref pr), .val (.int (1 : Int32)), .val (.int (1 : Int32)), .val .null, .val (.ref a19), .unset, .unset]) rfl k) ?_
          show Fin _ p e below s _ _ _ T19 (mkF m 116 #[.val (.int p0), .val (.int p1), .val (.int p2), .val (.int p3), .val (.ref pr), .val (.int (1 : Int32)), .val (.int (1 : Int32)), .val .null, .val (.ref a19), .unset, .unset] [])
          refine Fin.go (fun _ k => XS.aload X19.here hx rfl (hb hby at_116) rfl rfl k) ?_
          show Fin _ p e below s _ _ _ T19 (mkF m 118 #[.val (.int p0), .val (.int p1), .val (.int p2), .val (.int p3), .val (.ref pr), .val (.int (1 : Int32)), .val (.int (1 : Int32)), .val .null, .val (.ref a19), .unset, .unset] [(.ref a19)])
          refine Fin.go (fun _ k => XS.iconst X19.here hx rfl (hb hby at_118) k) ?_
          show Fin _ p e below s _ _ _ T19 (mkF m 119 #[.val (.int p0), .val (.int p1), .val (.int p2), .val (.int p3), .val (.ref pr), .val (.int (1 : Int32)), .val (.int (1 : Int32)), .val .null, .val (.ref a19), .unset, .unset] [(.int (0 : Int32)), (.ref a19)])
          refine Fin.go (fun _ k => XS.iloadN X19.here hx rfl (hb hby at_119) rfl k) ?_
          show Fin _ p e below s _ _ _ T19 (mkF m 120 #[.val (.int p0), .val (.int p1), .val (.int p2), .val (.int p3), .val (.ref pr), .val (.int (1 : Int32)), .val (.int (1 : Int32)), .val .null, .val (.ref a19), .unset, .unset] [(.int p2), (.int (0 : Int32)), (.ref a19)])
          refine Fin.go (fun _ k => XS.sipush X19.here hx rfl (hb hby at_120) k) ?_
          show Fin _ p e below s _ _ _ T19 (mkF m 123 #[.val (.int p0), .val (.int p1), .val (.int p2), .val (.int p3), .val (.ref pr), .val (.int (1 : Int32)), .val (.int (1 : Int32)), .val .null, .val (.ref a19), .unset, .unset] [(.int (255 : Int32)), (.int p2), (.int (0 : Int32)), (.ref a19)])
          refine Fin.go (fun _ k => XS.iand X19.here hx rfl (hb hby at_123) rfl k) ?_
          show Fin _ p e below s _ _ _ T19 (mkF m 124 #[.val (.int p0), .val (.int p1), .val (.int p2), .val (.int p3), .val (.ref pr), .val (.int (1 : Int32)), .val (.int (1 : Int32)), .val .null, .val (.ref a19), .unset, .unset] [(.int (p2 &&& (255 : Int32))), (.int (0 : Int32)), (.ref a19)])
          refine Fin.go (fun _ k => XT.i2c X19.here hx rfl (hb hby at_124) rfl k) ?_
          show Fin _ p e below s _ _ _ T19 (mkF m 125 #[.val (.int p0), .val (.int p1), .val (.int p2), .val (.int p3), .val (.ref pr), .val (.int (1 : Int32)), .val (.int (1 : Int32)), .val .null, .val (.ref a19), .unset, .unset] [(.int ((Int32.toUInt32 (p2 &&& (255 : Int32))).toUInt16.toUInt32.toInt32)), (.int (0 : Int32)), (.ref a19)])
          obtain ⟨c20, B20, q20, S20, M20, H20, G20⟩ := id V19
          obtain ⟨T20, h20, X20, e20, W20, st20⟩ := stC X19 hx hZ e19 B20 (j := (0 : Int32)) (inb_of S20 ⟨(by decide : ¬ ((0 : Int32) < (0 : Int32))), (by decide : (0 : Int32) < (2 : Int32))⟩) (g := (mkF m 125 #[.val (.int p0), .val (.int p1), .val (.int p2), .val (.int p3), .val (.ref pr), .val (.int (1 : Int32)), .val (.int (1 : Int32)), .val .null, .val (.ref a19), .unset, .unset] [(.int ((Int32.toUInt32 (p2 &&& (255 : Int32))).toUInt16.toUInt32.toInt32)), (.int (0 : Int32)), (.ref a19)])) rfl rfl (hb hby at_125)
          refine Fin.go st20 ?_
          have V20 : Arv Z h20 a19 k19 .char (2 : Int32) [(.int ((Int32.toUInt32 (p2 &&& (255 : Int32))).toUInt16.toUInt32.toInt32)), (.int (0 : Int32))] (.int (0 : Int32)) := (by have q : Arv Z h20 a19 k19 .char (2 : Int32) [(.int (nar .char ((Int32.toUInt32 (p2 &&& (255 : Int32))).toUInt16.toUInt32.toInt32))), (.int (0 : Int32))] (.int (0 : Int32)) := (Arv.set B20 q20 S20 M20 H20 G20 (fits_nar_char _) W20 0 rfl (Nat.le_of_ble_eq_true rfl)); rwa [nar_c16] at q)
          have N20 := Fr.snoc X20 N11 n19
          have O20 := O19.wr W20 n19
          have hk20 := Nat.le_trans hk19 (Keep.of_wr W20).1
          have RR20 := RR19.trans (CHr.wr W20 (Safe.arv hZ.alike V19 (by decide)) RR19.1)
          show Fin _ p e below s _ _ _ T20 (mkF m 126 #[.val (.int p0), .val (.int p1), .val (.int p2), .val (.int p3), .val (.ref pr), .val (.int (1 : Int32)), .val (.int (1 : Int32)), .val .null, .val (.ref a19), .unset, .unset] [])
          refine Fin.go (fun _ k => XS.aload X20.here hx rfl (hb hby at_126) rfl rfl k) ?_
          show Fin _ p e below s _ _ _ T20 (mkF m 128 #[.val (.int p0), .val (.int p1), .val (.int p2), .val (.int p3), .val (.ref pr), .val (.int (1 : Int32)), .val (.int (1 : Int32)), .val .null, .val (.ref a19), .unset, .unset] [(.ref a19)])
          refine Fin.go (fun _ k => XS.iconst X20.here hx rfl (hb hby at_128) k) ?_
          show Fin _ p e below s _ _ _ T20 (mkF m 129 #[.val (.int p0), .val (.int p1), .val (.int p2), .val (.int p3), .val (.ref pr), .val (.int (1 : Int32)), .val (.int (1 : Int32)), .val .null, .val (.ref a19), .unset, .unset] [(.int (1 : Int32)), (.ref a19)])
          refine Fin.go (fun _ k => XS.iloadN X20.here hx rfl (hb hby at_129) rfl k) ?_
          show Fin _ p e below s _ _ _ T20 (mkF m 130 #[.val (.int p0), .val (.int p1), .val (.int p2), .val (.int p3), .val (.ref pr), .val (.int (1 : Int32)), .val (.int (1 : Int32)), .val .null, .val (.ref a19), .unset, .unset] [(.int p3), (.int (1 : Int32)), (.ref a19)])
          refine Fin.go (fun _ k => XS.sipush X20.here hx rfl (hb hby at_130) k) ?_
          show Fin _ p e below s _ _ _ T20 (mkF m 133 #[.val (.int p0), .val (.int p1), .val (.int p2), .val (.int p3), .val (.ref pr), .val (.int (1 : Int32)), .val (.int (1 : Int32)), .val .null, .val (.ref a19), .unset, .unset] [(.int (255 : Int32)), (.int p3), (.int (1 : Int32)), (.ref a19)])
          refine Fin.go (fun _ k => XS.iand X20.here hx rfl (hb hby at_133) rfl k) ?_
          show Fin _ p e below s _ _ _ T20 (mkF m 134 #[.val (.int p0), .val (.int p1), .val (.int p2), .val (.int p3), .val (.ref pr), .val (.int (1 : Int32)), .val (.int (1 : Int32)), .val .null, .val (.ref a19), .unset, .unset] [(.int (p3 &&& (255 : Int32))), (.int (1 : Int32)), (.ref a19)])
          refine Fin.go (fun _ k => XT.i2c X20.here hx rfl (hb hby at_134) rfl k) ?_
          show Fin _ p e below s _ _ _ T20 (mkF m 135 #[.val (.int p0), .val (.int p1), .val (.int p2), .val (.int p3), .val (.ref pr), .val (.int (1 : Int32)), .val (.int (1 : Int32)), .val .null, .val (.ref a19), .unset, .unset] [(.int ((Int32.toUInt32 (p3 &&& (255 : Int32))).toUInt16.toUInt32.toInt32)), (.int (1 : Int32)), (.ref a19)])
          obtain ⟨c21, B21, q21, S21, M21, H21, G21⟩ := id V20
          obtain ⟨T21, h21, X21, e21, W21, st21⟩ := stC X20 hx hZ e20 B21 (j := (1 : Int32)) (inb_of S21 ⟨(by decide : ¬ ((1 : Int32) < (0 : Int32))), (by decide : (1 : Int32) < (2 : Int32))⟩) (g := (mkF m 135 #[.val (.int p0), .val (.int p1), .val (.int p2), .val (.int p3), .val (.ref pr), .val (.int (1 : Int32)), .val (.int (1 : Int32)), .val .null, .val (.ref a19), .unset, .unset] [(.int ((Int32.toUInt32 (p3 &&& (255 : Int32))).toUInt16.toUInt32.toInt32)), (.int (1 : Int32)), (.ref a19)])) rfl rfl (hb hby at_135)
          refine Fin.go st21 ?_
          have V21 : Arv Z h21 a19 k19 .char (2 : Int32) [(.int ((Int32.toUInt32 (p2 &&& (255 : Int32))).toUInt16.toUInt32.toInt32)), (.int ((Int32.toUInt32 (p3 &&& (255 : Int32))).toUInt16.toUInt32.toInt32))] (.int (0 : Int32)) := (by have q : Arv Z h21 a19 k19 .char (2 : Int32) [(.int ((Int32.toUInt32 (p2 &&& (255 : Int32))).toUInt16.toUInt32.toInt32)), (.int (nar .char ((Int32.toUInt32 (p3 &&& (255 : Int32))).toUInt16.toUInt32.toInt32)))] (.int (0 : Int32)) := (Arv.set B21 q21 S21 M21 H21 G21 (fits_nar_char _) W21 1 rfl (Nat.le_of_ble_eq_true rfl)); rwa [nar_c16] at q)
          have N21 := Fr.snoc X21 N20 n19
          have O21 := O20.wr W21 n19
          have hk21 := Nat.le_trans hk20 (Keep.of_wr W21).1
          have RR21 := RR20.trans (CHr.wr W21 (Safe.arv hZ.alike V20 (by decide)) RR20.1)
          show Fin _ p e below s _ _ _ T21 (mkF m 136 #[.val (.int p0), .val (.int p1), .val (.int p2), .val (.int p3), .val (.ref pr), .val (.int (1 : Int32)), .val (.int (1 : Int32)), .val .null, .val (.ref a19), .unset, .unset] [])
          obtain ⟨T22, h22, X22, e22, E22, A22, D22, U22, st22⟩ := newO X21 hx hZ hown (hw _ w_12) (hw _ w_13) (hw _ w_14) e21 (g := (mkF m 136 #[.val (.int p0), .val (.int p1), .val (.int p2), .val (.int p3), .val (.ref pr), .val (.int (1 : Int32)), .val (.int (1 : Int32)), .val .null, .val (.ref a19), .unset, .unset] [])) rfl (hb hby at_136) (by decide) (by decide)
          obtain ⟨a22, g22⟩ : ∃ z, z = h21.size := ⟨_, rfl⟩
          rw [← g22] at A22 D22 U22 st22
          refine Fin.go st22 ?_
          have O22 := O21.ext E22
          have hk22 := Nat.le_trans hk21 E22.1
          have RR22 := RR21.trans (CHr.ext E22 RR21.1)
          have n22 : n0 ≤ a22 := by have := O21.2.1; have := O21.1; omega
          have sf22 := (Safe.new (Z := Z) (EL := EL) (vm := s.vm) (Nat.le_of_eq g22.symm)).ext E22 RR21.1
          have F22_value : Fld Z h22 a22 "java/lang/String" "value" "[B" .null := D22 (Or.inr (hw _ w_28)) (ty := (.array .byte)) (by decide)
          have F22_coder : Fld Z h22 a22 "java/lang/String" "coder" "B" (.int (0 : Int32)) := D22 (Or.inr (hw _ w_29)) (ty := .byte) (by decide)
          show Fin _ p e below s _ _ _ T22 (mkF m 139 #[.val (.int p0), .val (.int p1), .val (.int p2), .val (.int p3), .val (.ref pr), .val (.int (1 : Int32)), .val (.int (1 : Int32)), .val .null, .val (.ref a19), .unset, .unset] [(.ref a22)])
          refine Fin.go (fun _ k => XS.dup X22.here hx rfl (hb hby at_139) rfl rfl k) ?_
          show Fin _ p e below s _ _ _ T22 (mkF m 140 #[.val (.int p0), .val (.int p1), .val (.int p2), .val (.int p3), .val (.ref pr), .val (.int (1 : Int32)), .val (.int (1 : Int32)), .val .null, .val (.ref a19), .unset, .unset] [(.ref a22), (.ref a22)])
          refine Fin.go (fun _ k => XS.aload X22.here hx rfl (hb hby at_140) rfl rfl k) ?_
          show Fin _ p e below s _ _ _ T22 (mkF m 142 #[.val (.int p0), .val (.int p1), .val (.int p2), .val (.int p3), .val (.ref pr), .val (.int (1 : Int32)), .val (.int (1 : Int32)), .val .null, .val (.ref a19), .unset, .unset] [(.ref a19), (.ref a22), (.ref a22)])
          obtain ⟨v23, T23, L23, X23, q23, st23⟩ := callCt X22 hx hZ (y := (⟨"java/lang/String", "<init>", "([C)V"⟩ : MethodName)) rfl hown (hw _ w_16) (hw _ w_17) (hw _ w_14) (hw _ w_18) (by decide) (W := 1) (rmStr2 l Z a0 hw n0 h22 O22 a22 a19 k19 ((Int32.toUInt32 (p2 &&& (255 : Int32))).toUInt16.toUInt32.toInt32) ((Int32.toUInt32 (p3 &&& (255 : Int32))).toUInt16.toUInt32.toInt32) cs S_cs hcs (V21.ext E22) A22 F22_coder F22_value (and255 _) (and255 _) n22 (Nat.ne_of_lt (Nat.lt_of_lt_of_eq V21.lt g22.symm))) e22 (by decide) (by decide) (by decide) (by decide) (g := (mkF m 142 #[.val (.int p0), .val (.int p1), .val (.int p2), .val (.int p3), .val (.ref pr), .val (.int (1 : Int32)), .val (.int (1 : Int32)), .val .null, .val (.ref a19), .unset, .unset] [(.ref a19), (.ref a22), (.ref a22)])) rfl (by rw [hml]; rfl) (a := a22) (argsL := [(.ref a19)]) (rest := [(.ref a22)]) (lenOf pd_oACcV rfl) rfl (by show 2 * 0 + _ ≤ _; exact Nat.le_of_eq rfl) (hb hby at_142)
          obtain ⟨rfl, Nq23, Kq23, A23, C23, d23, kd23, F23, V23, zd23⟩ := q23
          have N23 := Fr.app N21 Nq23
          have O23 := O22.keep Kq23 (allS n22 all0)
          have RR23 := RR22.trans (CHr.keep Kq23 (sfS sf22 sf0) RR22.1)
          have hk23 := Nat.le_trans hk22 Kq23.1
          refine Fin.go st23 ?_
          have V23_a19 := ((V21.ext E22).keep Kq23 (ninS (Nat.ne_of_lt (Nat.lt_of_lt_of_eq V21.lt g22.symm)) nin0))
          show Fin _ p e below s _ _ _ T23 (mkF m 145 #[.val (.int p0), .val (.int p1), .val (.int p2), .val (.int p3), .val (.ref pr), .val (.int (1 : Int32)), .val (.int (1 : Int32)), .val .null, .val (.ref a19), .unset, .unset] [(.ref a22)])
          have nzd23 : n0 ≤ d23 := Nat.le_trans (by have := O22.1; have := O22.2.1; omega) zd23
          refine Fin.go (fun _ k => XS.astore X23.here hx rfl (hb hby at_145) rfl rfl (l' := #[.val (.int p0), .val (.int p1), .val (.int p2), .val (.int p3), .val (.ref pr), .val (.int (1 : Int32)), .val (.int (1 : Int32)), .val (.ref a22), .val (.ref a19), .unset, .unset]) rfl k) ?_
          show Fin _ p e below s _ _ _ T23 (mkF m 147 #[.val (.int p0), .val (.int p1), .val (.int p2), .val (.int p3), .val (.ref pr), .val (.int (1 : Int32)), .val (.int (1 : Int32)), .val (.ref a22), .val (.ref a19), .unset, .unset] [])
          obtain ⟨T24, h24, X24, e24, E24, A24, D24, U24, st24⟩ := newO X23 hx hZ hown (hw _ w_34) (hw _ w_35) (hw _ w_36) (rfl : T23.heap = T23.heap) (g := (mkF m 147 #[.val (.int p0), .val (.int p1), .val (.int p2), .val (.int p3), .val (.ref pr), .val (.int (1 : Int32)), .val (.int (1 : Int32)), .val (.ref a22), .val (.ref a19), .unset, .unset] [])) rfl (hb hby at_147) (by decide) (by decide)
          obtain ⟨a24, g24⟩ : ∃ z, z = T23.heap.size := ⟨_, rfl⟩
          rw [← g24] at A24 D24 U24 st24
          refine Fin.go st24 ?_
          have O24 := O23.ext E24
          have hk24 := Nat.le_trans hk23 E24.1
          have RR24 := RR23.trans (CHr.ext E24 RR23.1)
          have n24 : n0 ≤ a24 := by have := O23.2.1; have := O23.1; omega
          have F24_privilege : Fld Z h24 a24 "com/example/grantwell/grantwell/catalog/Action" "privilege" "Lcom/example/grantwell/grantwell/catalog/Privilege;" .null := D24 (Or.inr (hw _ w_59)) (ty := (.object "com/example/grantwell/grantwell/catalog/Privilege")) (by decide)
          have F24_column : Fld Z h24 a24 "com/example/grantwell/grantwell/catalog/Action" "column" "Ljava/lang/String;" .null := D24 (Or.inr (hw _ w_61)) (ty := (.object "java/lang/String")) (by decide)
          show Fin _ p e below s _ _ _ T24 (mkF m 150 #[.val (.int p0), .val (.int p1), .val (.int p2), .val (.int p3), .val (.ref pr), .val (.int (1 : Int32)), .val (.int (1 : Int32)), .val (.ref a22), .val (.ref a19), .unset, .unset] [(.ref a24)])
          refine Fin.go (fun _ k => XS.dup X24.here hx rfl (hb hby at_150) rfl rfl k) ?_
          show Fin _ p e below s _ _ _ T24 (mkF m 151 #[.val (.int p0), .val (.int p1), .val (.int p2), .val (.int p3), .val (.ref pr), .val (.int (1 : Int32)), .val (.int (1 : Int32)), .val (.ref a22), .val (.ref a19), .unset, .unset] [(.ref a24), (.ref a24)])
          refine Fin.go (fun _ k => XS.aload X24.here hx rfl (hb hby at_151) rfl rfl k) ?_
          show Fin _ p e below s _ _ _ T24 (mkF m 153 #[.val (.int p0), .val (.int p1), .val (.int p2), .val (.int p3), .val (.ref pr), .val (.int (1 : Int32)), .val (.int (1 : Int32)), .val (.ref a22), .val (.ref a19), .unset, .unset] [(.ref pr), (.ref a24), (.ref a24)])
          refine Fin.go (fun _ k => XS.aload X24.here hx rfl (hb hby at_153) rfl rfl k) ?_
          show Fin _ p e below s _ _ _ T24 (mkF m 155 #[.val (.int p0), .val (.int p1), .val (.int p2), .val (.int p3), .val (.ref pr), .val (.int (1 : Int32)), .val (.int (1 : Int32)), .val (.ref a22), .val (.ref a19), .unset, .unset] [(.ref a22), (.ref pr), (.ref a24), (.ref a24)])
          obtain ⟨v25, T25, L25, X25, hS25, hZ25, hown25, RC25, q25, st25⟩ := callCtH X24 hx hZ (y := (⟨"com/example/grantwell/grantwell/catalog/Action", "<init>", "(Lcom/example/grantwell/grantwell/catalog/Privilege;Ljava/lang/String;)V"⟩ : MethodName)) rfl hown (hw _ w_37) (hw _ w_38) (hw _ w_36) (hw _ w_39) (by decide) (W := 1) (rmActR l Z a0 hw n0 h24 O24 a24 pr a22 AP FP A24 F24_privilege F24_column n24) e24 hS hk24 hEL RR24.1 (by decide) (by decide) (by decide) (by decide) (g := (mkF m 155 #[.val (.int p0), .val (.int p1), .val (.int p2), .val (.int p3), .val (.ref pr), .val (.int (1 : Int32)), .val (.int (1 : Int32)), .val (.ref a22), .val (.ref a19), .unset, .unset] [(.ref a22), (.ref pr), (.ref a24), (.ref a24)])) rfl (by rw [hml]; rfl) (a := a24) (argsL := [(.ref pr), (.ref a22)]) (rest := [(.ref a24)]) (lenOf pd_oLcom_example_grantwell_grantwell_catalog_Privilege_Ljava_lang_String_cV rfl) rfl (by show 2 * 0 + _ ≤ _; exact Nat.le_of_eq rfl) (hb hby at_155)
          obtain ⟨rfl, Nq25, Kq25, A25, F25⟩ := q25
          have N25 := Fr.app N23 Nq25
          have O25 := O24.keep Kq25 (allS n24 all0)
          have RR25 := RR24.trans RC25
          refine Fin.go st25 ?_
          have V25_a19 := ((V23_a19.ext E24).keep Kq25 (ninS (Nat.ne_of_lt (Nat.lt_of_lt_of_eq V23_a19.lt g24.symm)) nin0))
          have sf25_a22 := (CHr.safe RC25 (A23.ext E24).lt ((Safe.keep Kq23 (sfS sf22 sf0) RR22.1 sf22).ext E24 RR23.1))
          have F25_a22_coder := ((C23.ext E24).keep Kq25 (ninS (Nat.ne_of_lt (Nat.lt_of_lt_of_eq A23.lt g24.symm)) nin0))
          have F25_a22_value := ((F23.ext E24).keep Kq25 (ninS (Nat.ne_of_lt (Nat.lt_of_lt_of_eq A23.lt g24.symm)) nin0))
          have V25_d23 := ((V23.ext E24).keep Kq25 (ninS (Nat.ne_of_lt (Nat.lt_of_lt_of_eq V23.lt g24.symm)) nin0))
          show Fin _ p e below s _ _ _ T25 (mkF m 158 #[.val (.int p0), .val (.int p1), .val (.int p2), .val (.int p3), .val (.ref pr), .val (.int (1 : Int32)), .val (.int (1 : Int32)), .val (.ref a22), .val (.ref a19), .unset, .unset] [(.ref a24)])
          refine Fin.go (fun _ k => XS.astore X25.here hx rfl (hb hby at_158) rfl rfl (l' := #[.val (.int p0), .val (.int p1), .val (.int p2), .val (.int p3), .val (.ref pr), .val (.int (1 : Int32)), .val (.int (1 : Int32)), .val (.ref a22), .val (.ref a24), .unset, .unset]) rfl k) ?_
          show Fin _ p e below s _ _ _ T25 (mkF m 160 #[.val (.int p0), .val (.int p1), .val (.int p2), .val (.int p3), .val (.ref pr), .val (.int (1 : Int32)), .val (.int (1 : Int32)), .val (.ref a22), .val (.ref a24), .unset, .unset] [])
          refine Fin.go (fun _ k => XS.aload X25.here hx rfl (hb hby at_160) rfl rfl k) ?_
          show Fin _ p e below s _ _ _ T25 (mkF m 162 #[.val (.int p0), .val (.int p1), .val (.int p2), .val (.int p3), .val (.ref pr), .val (.int (1 : Int32)), .val (.int (1 : Int32)), .val (.ref a22), .val (.ref a24), .unset, .unset] [(.ref a24)])
          obtain ⟨v26, T26, L26, X26, q26, st26⟩ := callVt X25 hx hZ25 (y := (⟨"com/example/grantwell/grantwell/catalog/Action", "isOnColumn", "()Z"⟩ : MethodName)) hown25 (hw _ w_62) (hw _ w_63) (hw _ w_65) (hw _ w_64) (hw _ w_36) (hw _ w_66) (by decide) (W := 0) (rmColR l Z a0 hw n0 T25.heap O25 a24 a22 F25) (rfl : T25.heap = T25.heap) A25 (by decide) (by decide) (by decide) (by decide) (g := (mkF m 162 #[.val (.int p0), .val (.int p1), .val (.int p2), .val (.int p3), .val (.ref pr), .val (.int (1 : Int32)), .val (.int (1 : Int32)), .val (.ref a22), .val (.ref a24), .unset, .unset] [(.ref a24)])) rfl (by rw [hml]; rfl) (argsL := []) (rest := []) (lenOf pd_ocZ rfl) rfl (by show 2 * 0 + _ ≤ _; exact Nat.le_of_eq rfl) (hb hby at_162)
          obtain ⟨rfl, e26, rfl⟩ := q26
          have N26 := Fr.app N25 (Fr.nil n0)
          refine Fin.go st26 ?_
          show Fin _ p e below s _ _ _ T26 (mkF m 165 #[.val (.int p0), .val (.int p1), .val (.int p2), .val (.int p3), .val (.ref pr), .val (.int (1 : Int32)), .val (.int (1 : Int32)), .val (.ref a22), .val (.ref a24), .unset, .unset] [(.int (1 : Int32))])
          refine Fin.go (fun _ k => XS.iload X26.here hx rfl (hb hby at_165) rfl k) ?_
          show Fin _ p e below s _ _ _ T26 (mkF m 167 #[.val (.int p0), .val (.int p1), .val (.int p2), .val (.int p3), .val (.ref pr), .val (.int (1 : Int32)), .val (.int (1 : Int32)), .val (.ref a22), .val (.ref a24), .unset, .unset] [(.int (1 : Int32)), (.int (1 : Int32))])
          refine Fin.go (fun _ k => XS.icmpNo X26.here hx rfl (hb hby at_167) rfl (XT.ii_ne_f (by decide)) k) ?_
          show Fin _ p e below s _ _ _ T26 (mkF m 170 #[.val (.int p0), .val (.int p1), .val (.int p2), .val (.int p3), .val (.ref pr), .val (.int (1 : Int32)), .val (.int (1 : Int32)), .val (.ref a22), .val (.ref a24), .unset, .unset] [])
          refine Fin.go (fun _ k => XS.iconst X26.here hx rfl (hb hby at_170) k) ?_
          show Fin _ p e below s _ _ _ T26 (mkF m 171 #[.val (.int p0), .val (.int p1), .val (.int p2), .val (.int p3), .val (.ref pr), .val (.int (1 : Int32)), .val (.int (1 : Int32)), .val (.ref a22), .val (.ref a24), .unset, .unset] [(.int (1 : Int32))])
          refine Fin.go (fun _ k => XS.goto X26.here hx rfl (pc0 := 171) (pc' := 175) rfl (hb hby at_171) (by decide) (by decide) k) ?_
          show Fin _ p e below s _ _ _ T26 (mkF m 175 #[.val (.int p0), .val (.int p1), .val (.int p2), .val (.int p3), .val (.ref pr), .val (.int (1 : Int32)), .val (.int (1 : Int32)), .val (.ref a22), .val (.ref a24), .unset, .unset] [(.int (1 : Int32))])
          refine Fin.go (fun _ k => XS.istore X26.here hx rfl (hb hby at_175) rfl (l' := #[.val (.int p0), .val (.int p1), .val (.int p2), .val (.int p3), .val (.ref pr), .val (.int (1 : Int32)), .val (.int (1 : Int32)), .val (.ref a22), .val (.ref a24), .val (.int (1 : Int32)), .unset]) rfl k) ?_
          show Fin _ p e below s _ _ _ T26 (mkF m 177 #[.val (.int p0), .val (.int p1), .val (.int p2), .val (.int p3), .val (.ref pr), .val (.int (1 : Int32)), .val (.int (1 : Int32)), .val (.ref a22), .val (.ref a24), .val (.int (1 : Int32)), .unset] [])
          refine Fin.go (fun _ k => XS.aload X26.here hx rfl (hb hby at_177) rfl rfl k) ?_
          show Fin _ p e below s _ _ _ T26 (mkF m 179 #[.val (.int p0), .val (.int p1), .val (.int p2), .val (.int p3), .val (.ref pr), .val (.int (1 : Int32)), .val (.int (1 : Int32)), .val (.ref a22), .val (.ref a24), .val (.int (1 : Int32)), .unset] [(.ref pr)])
          obtain ⟨v27, T27, L27, X27, hS27, hZ27, hown27, RC27, q27, st27⟩ := callStH X26 hx hZ25 (y := (⟨"com/example/grantwell/grantwell/catalog/Action", "onTable", "(Lcom/example/grantwell/grantwell/catalog/Privilege;)Lcom/example/grantwell/grantwell/catalog/Action;"⟩ : MethodName)) hown25 (hw _ w_67) (hw _ w_68) (hw _ w_36) (hw _ w_69) (by decide) (W := 0) (rmOT l Z a0 hw n0 T25.heap O25 pr) e26 hS25 (Nat.le_refl T25.heap.size) hEL RR25.1 (by decide) (by decide) (by decide) (by decide) (g := (mkF m 179 #[.val (.int p0), .val (.int p1), .val (.int p2), .val (.int p3), .val (.ref pr), .val (.int (1 : Int32)), .val (.int (1 : Int32)), .val (.ref a22), .val (.ref a24), .val (.int (1 : Int32)), .unset] [(.ref pr)])) rfl (by rw [hml]; rfl) (argsL := [(.ref pr)]) (rest := []) (lenOf pd_oLcom_example_grantwell_grantwell_catalog_Privilege_cLcom_example_grantwell_grantwell_catalog_Action_ rfl) rfl (by show 2 * 0 + _ ≤ _; exact Nat.le_of_eq rfl) (hb hby at_179)
          obtain ⟨o27, rfl, Nq27, Kq27, A27, F27⟩ := q27
          have N27 := Fr.app N26 Nq27
          have O27 := O25.keep Kq27 all0
          have RR27 := RR25.trans RC27
          refine Fin.go st27 ?_
          show Fin _ p e below s _ _ _ T27 (mkF m 182 #[.val (.int p0), .val (.int p1), .val (.int p2), .val (.int p3), .val (.ref pr), .val (.int (1 : Int32)), .val (.int (1 : Int32)), .val (.ref a22), .val (.ref a24), .val (.int (1 : Int32)), .unset] [(.ref o27)])
          refine Fin.go (fun _ k => XS.astore X27.here hx rfl (hb hby at_182) rfl rfl (l' := #[.val (.int p0), .val (.int p1), .val (.int p2), .val (.int p3), .val (.ref pr), .val (.int (1 : Int32)), .val (.int (1 : Int32)), .val (.ref a22), .val (.ref a24), .val (.int (1 : Int32)), .val (.ref o27)]) rfl k) ?_
          show Fin _ p e below s _ _ _ T27 (mkF m 184 #[.val (.int p0), .val (.int p1), .val (.int p2), .val (.int p3), .val (.ref pr), .val (.int (1 : Int32)), .val (.int (1 : Int32)), .val (.ref a22), .val (.ref a24), .val (.int (1 : Int32)), .val (.ref o27)] [])
          refine Fin.go (fun _ k => XS.iload X27.here hx rfl (hb hby at_184) rfl k) ?_
          show Fin _ p e below s _ _ _ T27 (mkF m 186 #[.val (.int p0), .val (.int p1), .val (.int p2), .val (.int p3), .val (.ref pr), .val (.int (1 : Int32)), .val (.int (1 : Int32)), .val (.ref a22), .val (.ref a24), .val (.int (1 : Int32)), .val (.ref o27)] [(.int (1 : Int32))])
          refine Fin.go (fun _ k => XS.ifNo X27.here hx rfl (hb hby at_186) rfl (XT.i0_eq_f (by decide)) k) ?_
          show Fin _ p e below s _ _ _ T27 (mkF m 189 #[.val (.int p0), .val (.int p1), .val (.int p2), .val (.int p3), .val (.ref pr), .val (.int (1 : Int32)), .val (.int (1 : Int32)), .val (.ref a22), .val (.ref a24), .val (.int (1 : Int32)), .val (.ref o27)] [])
          refine Fin.go (fun _ k => XS.aload X27.here hx rfl (hb hby at_189) rfl rfl k) ?_
          show Fin _ p e below s _ _ _ T27 (mkF m 191 #[.val (.int p0), .val (.int p1), .val (.int p2), .val (.int p3), .val (.ref pr), .val (.int (1 : Int32)), .val (.int (1 : Int32)), .val (.ref a22), .val (.ref a24), .val (.int (1 : Int32)), .val (.ref o27)] [(.ref o27)])
          obtain ⟨v28, T28, L28, X28, q28, st28⟩ := callVt X27 hx hZ27 (y := (⟨"com/example/grantwell/grantwell/catalog/Action", "isOnColumn", "()Z"⟩ : MethodName)) hown27 (hw _ w_62) (hw _ w_63) (hw _ w_65) (hw _ w_64) (hw _ w_36) (hw _ w_66) (by decide) (W := 0) (rmColN l Z a0 hw n0 T27.heap O27 o27 0 F27) (rfl : T27.heap = T27.heap) A27 (by decide) (by decide) (by decide) (by decide) (g := (mkF m 191 #[.val (.int p0), .val (.int p1), .val (.int p2), .val (.int p3), .val (.ref pr), .val (.int (1 : Int32)), .val (.int (1 : Int32)), .val (.ref a22), .val (.ref a24), .val (.int (1 : Int32)), .val (.ref o27)] [(.ref o27)])) rfl (by rw [hml]; rfl) (argsL := []) (rest := []) (lenOf pd_ocZ rfl) rfl (by show 2 * 0 + _ ≤ _; exact Nat.le_of_eq rfl) (hb hby at_191)
          obtain ⟨rfl, e28, rfl⟩ := q28
          have N28 := Fr.app N27 (Fr.nil n0)
          refine Fin.go st28 ?_
          show Fin _ p e below s _ _ _ T28 (mkF m 194 #[.val (.int p0), .val (.int p1), .val (.int p2), .val (.int p3), .val (.ref pr), .val (.int (1 : Int32)), .val (.int (1 : Int32)), .val (.ref a22), .val (.ref a24), .val (.int (1 : Int32)), .val (.ref o27)] [(.int (0 : Int32))])
          refine Fin.go (fun _ k => XS.ifNo X28.here hx rfl (hb hby at_194) rfl (XT.i0_ne_f (by decide)) k) ?_
          show Fin _ p e below s _ _ _ T28 (mkF m 197 #[.val (.int p0), .val (.int p1), .val (.int p2), .val (.int p3), .val (.ref pr), .val (.int (1 : Int32)), .val (.int (1 : Int32)), .val (.ref a22), .val (.ref a24), .val (.int (1 : Int32)), .val (.ref o27)] [])
          refine Fin.go (fun _ k => XS.iconst X28.here hx rfl (hb hby at_197) k) ?_
          show Fin _ p e below s _ _ _ T28 (mkF m 198 #[.val (.int p0), .val (.int p1), .val (.int p2), .val (.int p3), .val (.ref pr), .val (.int (1 : Int32)), .val (.int (1 : Int32)), .val (.ref a22), .val (.ref a24), .val (.int (1 : Int32)), .val (.ref o27)] [(.int (1 : Int32))])
          refine Fin.go (fun _ k => XS.goto X28.here hx rfl (pc0 := 198) (pc' := 202) rfl (hb hby at_198) (by decide) (by decide) k) ?_
          show Fin _ p e below s _ _ _ T28 (mkF m 202 #[.val (.int p0), .val (.int p1), .val (.int p2), .val (.int p3), .val (.ref pr), .val (.int (1 : Int32)), .val (.int (1 : Int32)), .val (.ref a22), .val (.ref a24), .val (.int (1 : Int32)), .val (.ref o27)] [(.int (1 : Int32))])
          exact Fin.leaveH X28 hS27 (Nat.le_refl T27.heap.size) hZ27 hEL e28 RR27 hlk (v := some (.int (nar .boolean (1 : Int32)))) (fun h => by rw [hret] at h; cases h) (by decide) (by decide) ⟨rfl, N28⟩ (fun fs hr => retN X28 hx (t := .boolean) hret (by simp) (hb hby at_202) hr)
        · refine Fin.go (fun _ k => XS.ifNo X13.here hx rfl (hb hby at_79) rfl (XT.i0_eq_f c79) k) ?_
          show Fin _ p e below s _ _ _ T13 (mkF m 82 #[.val (.int p0), .val (.int p1), .val (.int p2), .val (.int p3), .val (.ref pr), .val (.int (1 : Int32)), .val (.int (1 : Int32)), .val .null, .unset, .unset, .unset] [])
          refine Fin.go (fun _ k => XS.iconst X13.here hx rfl (hb hby at_82) k) ?_
          show Fin _ p e below s _ _ _ T13 (mkF m 83 #[.val (.int p0), .val (.int p1), .val (.int p2), .val (.int p3), .val (.ref pr), .val (.int (1 : Int32)), .val (.int (1 : Int32)), .val .null, .unset, .unset, .unset] [(.int (1 : Int32))])
          obtain ⟨T29, h29, k29, X29, e29, E29, A29, st29⟩ := newP X13 hx hZ (aty := .char) (hw _ w_15) e13 (g := (mkF m 83 #[.val (.int p0), .val (.int p1), .val (.int p2), .val (.int p3), .val (.ref pr), .val (.int (1 : Int32)), .val (.int (1 : Int32)), .val .null, .unset, .unset, .unset] [(.int (1 : Int32))])) rfl (hb hby at_83) rfl (by decide : ¬ ((1 : Int32) < (0 : Int32))) (cap := 1) (by decide) (by decide) (by decide) (by decide)
          obtain ⟨a29, g29⟩ : ∃ z, z = h0.size := ⟨_, rfl⟩
          rw [← g29] at A29 st29
          refine Fin.go st29 ?_
          have O29 := O.ext E29
          have hk29 := Nat.le_trans (Nat.zero_le _) E29.1
          have RR29 := RR0.trans (CHr.ext E29 RR0.1)
          have n29 : n0 ≤ a29 := by have := O.2.1; have := O.1; omega
          have V29 : Arv Z h29 a29 k29 .char (1 : Int32) [(.int (0 : Int32))] (.int (0 : Int32)) := (Arv.new A29 (by decide)).pad (pad_rep [] (.int (0 : Int32)) 1)
          show Fin _ p e below s _ _ _ T29 (mkF m 85 #[.val (.int p0), .val (.int p1), .val (.int p2), .val (.int p3), .val (.ref pr), .val (.int (1 : Int32)), .val (.int (1 : Int32)), .val .null, .unset, .unset, .unset] [(.ref a29)])
          refine Fin.go (fun _ k => XS.astore X29.here hx rfl (hb hby at_85) rfl rfl (l' := #[.val (.int p0), .val (.int p1), .val (.int p2), .val (.int p3), .val (.ref pr), .val (.int (1 : Int32)), .val (.int (1 : Int32)), .val .null, .val (.ref a29), .unset, .unset]) rfl k) ?_
          show Fin _ p e below s _ _ _ T29 (mkF m 87 #[.val (.int p0), .val (.int p1), .val (.int p2), .val (.int p3), .val (.ref pr), .val (.int (1 : Int32)), .val (.int (1 : Int32)), .val .null, .val (.ref a29), .unset, .unset] [])
          refine Fin.go (fun _ k => XS.aload X29.here hx rfl (hb hby at_87) rfl rfl k) ?_
          show Fin _ p e below s _ _ _ T29 (mkF m 89 #[.val (.int p0), .val (.int p1), .val (.int p2), .val (.int p3), .val (.ref pr), .val (.int (1 : Int32)), .val (.int (1 : Int32)), .val .null, .val (.ref a29), .unset, .unset] [(.ref a29)])
          refine Fin.go (fun _ k => XS.iconst X29.here hx rfl (hb hby at_89) k) ?_
          show Fin _ p e below s _ _ _ T29 (mkF m 90 #[.val (.int p0), .val (.int p1), .val (.int p2), .val (.int p3), .val (.ref pr), .val (.int (1 : Int32)), .val (.int (1 : Int32)), .val .null, .val (.ref a29), .unset, .unset] [(.int (0 : Int32)), (.ref a29)])
          refine Fin.go (fun _ k => XS.iloadN X29.here hx rfl (hb hby at_90) rfl k) ?_
          show Fin _ p e below s _ _ _ T29 (mkF m 91 #[.val (.int p0), .val (.int p1), .val (.int p2), .val (.int p3), .val (.ref pr), .val (.int (1 : Int32)), .val (.int (1 : Int32)), .val .null, .val (.ref a29), .unset, .unset] [(.int p2), (.int (0 : Int32)), (.ref a29)])
          refine Fin.go (fun _ k => XS.sipush X29.here hx rfl (hb hby at_91) k) ?_
          show Fin _ p e below s _ _ _ T29 (mkF m 94 #[.val (.int p0), .val (.int p1), .val (.int p2), .val (.int p3), .val (.ref pr), .val (.int (1 : Int32)), .val (.int (1 : Int32)), .val .null, .val (.ref a29), .unset, .unset] [(.int (255 : Int32)), (.int p2), (.int (0 : Int32)), (.ref a29)])
          refine Fin.go (fun _ k => XS.iand X29.here hx rfl (hb hby at_94) rfl k) ?_
          show Fin _ p e below s _ _ _ T29 (mkF m 95 #[.val (.int p0), .val (.int p1), .val (.int p2), .val (.int p3), .val (.ref pr), .val (.int (1 : Int32)), .val (.int (1 : Int32)), .val .null, .val (.ref a29), .unset, .unset] [(.int (p2 &&& (255 : Int32))), (.int (0 : Int32)), (.ref a29)])
          refine Fin.go (fun _ k => XT.i2c X29.here hx rfl (hb hby at_95) rfl k) ?_
          show Fin _ p e below s _ _ _ T29 (mkF m 96 #[.val (.int p0), .val (.int p1), .val (.int p2), .val (.int p3), .val (.ref pr), .val (.int (1 : Int32)), .val (.int (1 : Int32)), .val .null, .val (.ref a29), .unset, .unset] [(.int ((Int32.toUInt32 (p2 &&& (255 : Int32))).toUInt16.toUInt32.toInt32)), (.int (0 : Int32)), (.ref a29)])
          obtain ⟨c30, B30, q30, S30, M30, H30, G30⟩ := id V29
          obtain ⟨T30, h30, X30, e30, W30, st30⟩ := stC X29 hx hZ e29 B30 (j := (0 : Int32)) (inb_of S30 ⟨(by decide : ¬ ((0 : Int32) < (0 : Int32))), (by decide : (0 : Int32) < (1 : Int32))⟩) (g := (mkF m 96 #[.val (.int p0), .val (.int p1), .val (.int p2), .val (.int p3), .val (.ref pr), .val (.int (1 : Int32)), .val (.int (1 : Int32)), .val .null, .val (.ref a29), .unset, .unset] [(.int ((Int32.toUInt32 (p2 &&& (255 : Int32))).toUInt16.toUInt32.toInt32)), (.int (0 : Int32)), (.ref a29)])) rfl rfl (hb hby at_96)
          refine Fin.go st30 ?_
          have V30 : Arv Z h30 a29 k29 .char (1 : Int32) [(.int ((Int32.toUInt32 (p2 &&& (255 : Int32))).toUInt16.toUInt32.toInt32))] (.int (0 : Int32)) := (by have q : Arv Z h30 a29 k29 .char (1 : Int32) [(.int (nar .char ((Int32.toUInt32 (p2 &&& (255 : Int32))).toUInt16.toUInt32.toInt32)))] (.int (0 : Int32)) := (Arv.set B30 q30 S30 M30 H30 G30 (fits_nar_char _) W30 0 rfl (Nat.le_of_ble_eq_true rfl)); rwa [nar_c16] at q)
          have N30 := Fr.snoc X30 N11 n29
          have O30 := O29.wr W30 n29
          have hk30 := Nat.le_trans hk29 (Keep.of_wr W30).1
          have RR30 := RR29.trans (CHr.wr W30 (Safe.arv hZ.alike V29 (by decide)) RR29.1)
          show Fin _ p e below s _ _ _ T30 (mkF m 97 #[.val (.int p0), .val (.int p1), .val (.int p2), .val (.int p3), .val (.ref pr), .val (.int (1 : Int32)), .val (.int (1 : Int32)), .val .null, .val (.ref a29), .unset, .unset] [])
          obtain ⟨T31, h31, X31, e31, E31, A31, D31, U31, st31⟩ := newO X30 hx hZ hown (hw _ w_12) (hw _ w_13) (hw _ w_14) e30 (g := (mkF m 97 #[.val (.int p0), .val (.int p1), .val (.int p2), .val (.int p3), .val (.ref pr), .val (.int (1 : Int32)), .val (.int (1 : Int32)), .val .null, .val (.ref a29), .unset, .unset] [])) rfl (hb hby at_97) (by decide) (by decide)
          obtain ⟨a31, g31⟩ : ∃ z, z = h30.size := ⟨_, rfl⟩
          rw [← g31] at A31 D31 U31 st31
          refine Fin.go st31 ?_
          have O31 := O30.ext E31
          have hk31 := Nat.le_trans hk30 E31.1
          have RR31 := RR30.trans (CHr.ext E31 RR30.1)
          have n31 : n0 ≤ a31 := by have := O30.2.1; have := O30.1; omega
          have sf31 := (Safe.new (Z := Z) (EL := EL) (vm := s.vm) (Nat.le_of_eq g31.symm)).ext E31 RR30.1
          have F31_value : Fld Z h31 a31 "java/lang/String" "value" "[B" .null := D31 (Or.inr (hw _ w_28)) (ty := (.array .byte)) (by decide)
          have F31_coder : Fld Z h31 a31 "java/lang/String" "coder" "B" (.int (0 : Int32)) := D31 (Or.inr (hw _ w_29)) (ty := .byte) (by decide)
          show Fin _ p e below s _ _ _ T31 (mkF m 100 #[.val (.int p0), .val (.int p1), .val (.int p2), .val (.int p3), .val (.ref pr), .val (.int (1 : Int32)), .val (.int (1 : Int32)), .val .null, .val (.ref a29), .unset, .unset] [(.ref a31)])
          refine Fin.go (fun _ k => XS.dup X31.here hx rfl (hb hby at_100) rfl rfl k) ?_
          show Fin _ p e below s _ _ _ T31 (mkF m 101 #[.val (.int p0), .val (.int p1), .val (.int p2), .val (.int p3), .val (.ref pr), .val (.int (1 : Int32)), .val (.int (1 : Int32)), .val .null, .val (.ref a29), .unset, .unset] [(.ref a31), (.ref a31)])
          refine Fin.go (fun _ k => XS.aload X31.here hx rfl (hb hby at_101) rfl rfl k) ?_
          show Fin _ p e below s _ _ _ T31 (mkF m 103 #[.val (.int p0), .val (.int p1), .val (.int p2), .val (.int p3), .val (.ref pr), .val (.int (1 : Int32)), .val (.int (1 : Int32)), .val .null, .val (.ref a29), .unset, .unset] [(.ref a29), (.ref a31), (.ref a31)])
          obtain ⟨v32, T32, L32, X32, q32, st32⟩ := callCt X31 hx hZ (y := (⟨"java/lang/String", "<init>", "([C)V"⟩ : MethodName)) rfl hown (hw _ w_16) (hw _ w_17) (hw _ w_14) (hw _ w_18) (by decide) (W := 1) (rmStr1 l Z a0 hw n0 h31 O31 a31 a29 k29 ((Int32.toUInt32 (p2 &&& (255 : Int32))).toUInt16.toUInt32.toInt32) cs S_cs hcs (V30.ext E31) A31 F31_coder F31_value (and255 _) n31 (Nat.ne_of_lt (Nat.lt_of_lt_of_eq V30.lt g31.symm))) e31 (by decide) (by decide) (by decide) (by decide) (g := (mkF m 103 #[.val (.int p0), .val (.int p1), .val (.int p2), .val (.int p3), .val (.ref pr), .val (.int (1 : Int32)), .val (.int (1 : Int32)), .val .null, .val (.ref a29), .unset, .unset] [(.ref a29), (.ref a31), (.ref a31)])) rfl (by rw [hml]; rfl) (a := a31) (argsL := [(.ref a29)]) (rest := [(.ref a31)]) (lenOf pd_oACcV rfl) rfl (by show 2 * 0 + _ ≤ _; exact Nat.le_of_eq rfl) (hb hby at_103)
          obtain ⟨rfl, Nq32, Kq32, A32, C32, d32, kd32, F32, V32, zd32⟩ := q32
          have N32 := Fr.app N30 Nq32
          have O32 := O31.keep Kq32 (allS n31 all0)
          have RR32 := RR31.trans (CHr.keep Kq32 (sfS sf31 sf0) RR31.1)
          have hk32 := Nat.le_trans hk31 Kq32.1
          refine Fin.go st32 ?_
          have V32_a29 := ((V30.ext E31).keep Kq32 (ninS (Nat.ne_of_lt (Nat.lt_of_lt_of_eq V30.lt g31.symm)) nin0))
          show Fin _ p e below s _ _ _ T32 (mkF m 106 #[.val (.int p0), .val (.int p1), .val (.int p2), .val (.int p3), .val (.ref pr), .val (.int (1 : Int32)), .val (.int (1 : Int32)), .val .null, .val (.ref a29), .unset, .unset] [(.ref a31)])
          have nzd32 : n0 ≤ d32 := Nat.le_trans (by have := O31.1; have := O31.2.1; omega) zd32
          refine Fin.go (fun _ k => XS.astore X32.here hx rfl (hb hby at_106) rfl rfl (l' := #[.val (.int p0), .val (.int p1), .val (.int p2), .val (.int p3), .val (.ref pr), .val (.int (1 : Int32)), .val (.int (1 : Int32)), .val (.ref a31), .val (.ref a29), .unset, .unset]) rfl k) ?_
          show Fin _ p e below s _ _ _ T32 (mkF m 108 #[.val (.int p0), .val (.int p1), .val (.int p2), .val (.int p3), .val (.ref pr), .val (.int (1 : Int32)), .val (.int (1 : Int32)), .val (.ref a31), .val (.ref a29), .unset, .unset] [])
          refine Fin.go (fun _ k => XS.goto X32.here hx rfl (pc0 := 108) (pc' := 147) rfl (hb hby at_108) (by decide) (by decide) k) ?_
          show Fin _ p e below s _ _ _ T32 (mkF m 147 #[.val (.int p0), .val (.int p1), .val (.int p2), .val (.int p3), .val (.ref pr), .val (.int (1 : Int32)), .val (.int (1 : Int32)), .val (.ref a31), .val (.ref a29), .unset, .unset] [])
          obtain ⟨T33, h33, X33, e33, E33, A33, D33, U33, st33⟩ := newO X32 hx hZ hown (hw _ w_34) (hw _ w_35) (hw _ w_36) (rfl : T32.heap = T32.heap) (g := (mkF m 147 #[.val (.int p0), .val (.int p1), .val (.int p2), .val (.int p3), .val (.ref pr), .val (.int (1 : Int32)), .val (.int (1 : Int32)), .val (.ref a31), .val (.ref a29), .unset, .unset] [])) rfl (hb hby at_147) (by decide) (by decide)
          obtain ⟨a33, g33⟩ : ∃ z, z = T32.heap.size := ⟨_, rfl⟩
          rw [← g33] at A33 D33 U33 st33
          refine Fin.go st33 ?_
          have O33 := O32.ext E33
          have hk33 := Nat.le_trans hk32 E33.1
          have RR33 := RR32.trans (CHr.ext E33 RR32.1)
          have n33 : n0 ≤ a33 := by have := O32.2.1; have := O32.1; omega
          have F33_privilege : Fld Z h33 a33 "com/example/grantwell/grantwell/catalog/Action" "privilege" "Lcom/example/grantwell/grantwell/catalog/Privilege;" .null := D33 (Or.inr (hw _ w_59)) (ty := (.object "com/example/grantwell/grantwell/catalog/Privilege")) (by decide)
          have F33_column : Fld Z h33 a33 "com/example/grantwell/grantwell/catalog/Action" "column" "Ljava/lang/String;" .null := D33 (Or.inr (hw _ w_61)) (ty := (.object "java/lang/String")) (by decide)
          show Fin _ p e below s _ _ _ T33 (mkF m 150 #[.val (.int p0), .val (.int p1), .val (.int p2), .val (.int p3), .val (.ref pr), .val (.int (1 : Int32)), .val (.int (1 : Int32)), .val (.ref a31), .val (.ref a29), .unset, .unset] [(.ref a33)])
          refine Fin.go (fun _ k => XS.dup X33.here hx rfl (hb hby at_150) rfl rfl k) ?_
          show Fin _ p e below s _ _ _ T33 (mkF m 151 #[.val (.int p0), .val (.int p1), .val (.int p2), .val (.int p3), .val (.ref pr), .val (.int (1 : Int32)), .val (.int (1 : Int32)), .val (.ref a31), .val (.ref a29), .unset, .unset] [(.ref a33), (.ref a33)])
          refine Fin.go (fun _ k => XS.aload X33.here hx rfl (hb hby at_151) rfl rfl k) ?_
          show Fin _ p e below s _ _ _ T33 (mkF m 153 #[.val (.int p0), .val (.int p1), .val (.int p2), .val (.int p3), .val (.ref pr), .val (.int (1 : Int32)), .val (.int (1 : Int32)), .val (.ref a31), .val (.ref a29), .unset, .unset] [(.ref pr), (.ref a33), (.ref a33)])
          refine Fin.go (fun _ k => XS.aload X33.here hx rfl (hb hby at_153) rfl rfl k) ?_
          show Fin _ p e below s _ _ _ T33 (mkF m 155 #[.val (.int p0), .val (.int p1), .val (.int p2), .val (.int p3), .val (.ref pr), .val (.int (1 : Int32)), .val (.int (1 : Int32)), .val (.ref a31), .val (.ref a29), .unset, .unset] [(.ref a31), (.ref pr), (.ref a33), (.ref a33)])
          obtain ⟨v34, T34, L34, X34, hS34, hZ34, hown34, RC34, q34, st34⟩ := callCtH X33 hx hZ (y := (⟨"com/example/grantwell/grantwell/catalog/Action", "<init>", "(Lcom/example/grantwell/grantwell/catalog/Privilege;Ljava/lang/String;)V"⟩ : MethodName)) rfl hown (hw _ w_37) (hw _ w_38) (hw _ w_36) (hw _ w_39) (by decide) (W := 1) (rmActR l Z a0 hw n0 h33 O33 a33 pr a31 AP FP A33 F33_privilege F33_column n33) e33 hS hk33 hEL RR33.1 (by decide) (by decide) (by decide) (by decide) (g := (mkF m 155 #[.val (.int p0), .val (.int p1), .val (.int p2), .val (.int p3), .val (.ref pr), .val (.int (1 : Int32)), .val (.int (1 : Int32)), .val (.ref a31), .val (.ref a29), .unset, .unset] [(.ref a31), (.ref pr), (.ref a33), (.ref a33)])) rfl (by rw [hml]; rfl) (a := a33) (argsL := [(.ref pr), (.ref a31)]) (rest := [(.ref a33)]) (lenOf pd_oLcom_example_grantwell_grantwell_catalog_Privilege_Ljava_lang_String_cV rfl) rfl (by show 2 * 0 + _ ≤ _; exact Nat.le_of_eq rfl) (hb hby at_155)
          obtain ⟨rfl, Nq34, Kq34, A34, F34⟩ := q34
          have N34 := Fr.app N32 Nq34
          have O34 := O33.keep Kq34 (allS n33 all0)
          have RR34 := RR33.trans RC34
          refine Fin.go st34 ?_
          have V34_a29 := ((V32_a29.ext E33).keep Kq34 (ninS (Nat.ne_of_lt (Nat.lt_of_lt_of_eq V32_a29.lt g33.symm)) nin0))
          have sf34_a31 := (CHr.safe RC34 (A32.ext E33).lt ((Safe.keep Kq32 (sfS sf31 sf0) RR31.1 sf31).ext E33 RR32.1))
          have F34_a31_coder := ((C32.ext E33).keep Kq34 (ninS (Nat.ne_of_lt (Nat.lt_of_lt_of_eq A32.lt g33.symm)) nin0))
          have F34_a31_value := ((F32.ext E33).keep Kq34 (ninS (Nat.ne_of_lt (Nat.lt_of_lt_of_eq A32.lt g33.symm)) nin0))
          have V34_d32 := ((V32.ext E33).keep Kq34 (ninS (Nat.ne_of_lt (Nat.lt_of_lt_of_eq V32.lt g33.symm)) nin0))
          show Fin _ p e below s _ _ _ T34 (mkF m 158 #[.val (.int p0), .val (.int p1), .val (.int p2), .val (.int p3), .val (.ref pr), .val (.int (1 : Int32)), .val (.int (1 : Int32)), .val (.ref a31), .val (.ref a29), .unset, .unset] [(.ref a33)])
          refine Fin.go (fun _ k => XS.astore X34.here hx rfl (hb hby at_158) rfl rfl (l' := #[.val (.int p0), .val (.int p1), .val (.int p2), .val (.int p3), .val (.ref pr), .val (.int (1 : Int32)), .val (.int (1 : Int32)), .val (.ref a31), .val (.ref a33), .unset, .unset]) rfl k) ?_
          show Fin _ p e below s _ _ _ T34 (mkF m 160 #[.val (.int p0), .val (.int p1), .val (.int p2), .val (.int p3), .val (.ref pr), .val (.int (1 : Int32)), .val (.int (1 : Int32)), .val (.ref a31), .val (.ref a33), .unset, .unset] [])
          refine Fin.go (fun _ k => XS.aload X34.here hx rfl (hb hby at_160) rfl rfl k) ?_
          show Fin _ p e below s _ _ _ T34 (mkF m 162 #[.val (.int p0), .val (.int p1), .val (.int p2), .val (.int p3), .val (.ref pr), .val (.int (1 : Int32)), .val (.int (1 : Int32)), .val (.ref a31), .val (.ref a33), .unset, .unset] [(.ref a33)])
          obtain ⟨v35, T35, L35, X35, q35, st35⟩ := callVt X34 hx hZ34 (y := (⟨"com/example/grantwell/grantwell/catalog/Action", "isOnColumn", "()Z"⟩ : MethodName)) hown34 (hw _ w_62) (hw _ w_63) (hw _ w_65) (hw _ w_64) (hw _ w_36) (hw _ w_66) (by decide) (W := 0) (rmColR l Z a0 hw n0 T34.heap O34 a33 a31 F34) (rfl : T34.heap = T34.heap) A34 (by decide) (by decide) (by decide) (by decide) (g := (mkF m 162 #[.val (.int p0), .val (.int p1), .val (.int p2), .val (.int p3), .val (.ref pr), .val (.int (1 : Int32)), .val (.int (1 : Int32)), .val (.ref a31), .val (.ref a33), .unset, .unset] [(.ref a33)])) rfl (by rw [hml]; rfl) (argsL := []) (rest := []) (lenOf pd_ocZ rfl) rfl (by show 2 * 0 + _ ≤ _; exact Nat.le_of_eq rfl) (hb hby at_162)
          obtain ⟨rfl, e35, rfl⟩ := q35
          have N35 := Fr.app N34 (Fr.nil n0)
          refine Fin.go st35 ?_
          show Fin _ p e below s _ _ _ T35 (mkF m 165 #[.val (.int p0), .val (.int p1), .val (.int p2), .val (.int p3), .val (.ref pr), .val (.int (1 : Int32)), .val (.int (1 : Int32)), .val (.ref a31), .val (.ref a33), .unset, .unset] [(.int (1 : Int32))])
          refine Fin.go (fun _ k => XS.iload X35.here hx rfl (hb hby at_165) rfl k) ?_
          show Fin _ p e below s _ _ _ T35 (mkF m 167 #[.val (.int p0), .val (.int p1), .val (.int p2), .val (.int p3), .val (.ref pr), .val (.int (1 : Int32)), .val (.int (1 : Int32)), .val (.ref a31), .val (.ref a33), .unset, .unset] [(.int (1 : Int32)), (.int (1 : Int32))])
          refine Fin.go (fun _ k => XS.icmpNo X35.here hx rfl (hb hby at_167) rfl (XT.ii_ne_f (by decide)) k) ?_
          show Fin _ p e below s _ _ _ T35 (mkF m 170 #[.val (.int p0), .val (.int p1), .val (.int p2), .val (.int p3), .val (.ref pr), .val (.int (1 : Int32)), .val (.int (1 : Int32)), .val (.ref a31), .val (.ref a33), .unset, .unset] [])
          refine Fin.go (fun _ k => XS.iconst X35.here hx rfl (hb hby at_170) k) ?_
          show Fin _ p e below s _ _ _ T35 (mkF m 171 #[.val (.int p0), .val (.int p1), .val (.int p2), .val (.int p3), .val (.ref pr), .val (.int (1 : Int32)), .val (.int (1 : Int32)), .val (.ref a31), .val (.ref a33), .unset, .unset] [(.int (1 : Int32))])
          refine Fin.go (fun _ k => XS.goto X35.here hx rfl (pc0 := 171) (pc' := 175) rfl (hb hby at_171) (by decide) (by decide) k) ?_
          show Fin _ p e below s _ _ _ T35 (mkF m 175 #[.val (.int p0), .val (.int p1), .val (.int p2), .val (.int p3), .val (.ref pr), .val (.int (1 : Int32)), .val (.int (1 : Int32)), .val (.ref a31), .val (.ref a33), .unset, .unset] [(.int (1 : Int32))])
          refine Fin.go (fun _ k => XS.istore X35.here hx rfl (hb hby at_175) rfl (l' := #[.val (.int p0), .val (.int p1), .val (.int p2), .val (.int p3), .val (.ref pr), .val (.int (1 : Int32)), .val (.int (1 : Int32)), .val (.ref a31), .val (.ref a33), .val (.int (1 : Int32)), .unset]) rfl k) ?_
          show Fin _ p e below s _ _ _ T35 (mkF m 177 #[.val (.int p0), .val (.int p1), .val (.int p2), .val (.int p3), .val (.ref pr), .val (.int (1 : Int32)), .val (.int (1 : Int32)), .val (.ref a31), .val (.ref a33), .val (.int (1 : Int32)), .unset] [])
          refine Fin.go (fun _ k => XS.aload X35.here hx rfl (hb hby at_177) rfl rfl k) ?_
          show Fin _ p e below s _ _ _ T35 (mkF m 179 #[.val (.int p0), .val (.int p1), .val (.int p2), .val (.int p3), .val (.ref pr), .val (.int (1 : Int32)), .val (.int (1 : Int32)), .val (.ref a31), .val (.ref a33), .val (.int (1 : Int32)), .unset] [(.ref pr)])
          obtain ⟨v36, T36, L36, X36, hS36, hZ36, hown36, RC36, q36, st36⟩ := callStH X35 hx hZ34 (y := (⟨"com/example/grantwell/grantwell/catalog/Action", "onTable", "(Lcom/example/grantwell/grantwell/catalog/Privilege;)Lcom/example/grantwell/grantwell/catalog/Action;"⟩ : MethodName)) hown34 (hw _ w_67) (hw _ w_68) (hw _ w_36) (hw _ w_69) (by decide) (W := 0) (rmOT l Z a0 hw n0 T34.heap O34 pr) e35 hS34 (Nat.le_refl T34.heap.size) hEL RR34.1 (by decide) (by decide) (by decide) (by decide) (g := (mkF m 179 #[.val (.int p0), .val (.int p1), .val (.int p2), .val (.int p3), .val (.ref pr), .val (.int (1 : Int32)), .val (.int (1 : Int32)), .val (.ref a31), .val (.ref a33), .val (.int (1 : Int32)), .unset] [(.ref pr)])) rfl (by rw [hml]; rfl) (argsL := [(.ref pr)]) (rest := []) (lenOf pd_oLcom_example_grantwell_grantwell_catalog_Privilege_cLcom_example_grantwell_grantwell_catalog_Action_ rfl) rfl (by show 2 * 0 + _ ≤ _; exact Nat.le_of_eq rfl) (hb hby at_179)
          obtain ⟨o36, rfl, Nq36, Kq36, A36, F36⟩ := q36
          have N36 := Fr.app N35 Nq36
          have O36 := O34.keep Kq36 all0
          have RR36 := RR34.trans RC36
          refine Fin.go st36 ?_
          show Fin _ p e below s _ _ _ T36 (mkF m 182 #[.val (.int p0), .val (.int p1), .val (.int p2), .val (.int p3), .val (.ref pr), .val (.int (1 : Int32)), .val (.int (1 : Int32)), .val (.ref a31), .val (.ref a33), .val (.int (1 : Int32)), .unset] [(.ref o36)])
          refine Fin.go (fun _ k => XS.astore X36.here hx rfl (hb hby at_182) rfl rfl (l' := #[.val (.int p0), .val (.int p1), .val (.int p2), .val (.int p3), .val (.ref pr), .val (.int (1 : Int32)), .val (.int (1 : Int32)), .val (.ref a31), .val (.ref a33), .val (.int (1 : Int32)), .val (.ref o36)]) rfl k) ?_
          show Fin _ p e below s _ _ _ T36 (mkF m 184 #[.val (.int p0), .val (.int p1), .val (.int p2), .val (.int p3), .val (.ref pr), .val (.int (1 : Int32)), .val (.int (1 : Int32)), .val (.ref a31), .val (.ref a33), .val (.int (1 : Int32)), .val (.ref o36)] [])
          refine Fin.go (fun _ k => XS.iload X36.here hx rfl (hb hby at_184) rfl k) ?_
          show Fin _ p e below s _ _ _ T36 (mkF m 186 #[.val (.int p0), .val (.int p1), .val (.int p2), .val (.int p3), .val (.ref pr), .val (.int (1 : Int32)), .val (.int (1 : Int32)), .val (.ref a31), .val (.ref a33), .val (.int (1 : Int32)), .val (.ref o36)] [(.int (1 : Int32))])
          refine Fin.go (fun _ k => XS.ifNo X36.here hx rfl (hb hby at_186) rfl (XT.i0_eq_f (by decide)) k) ?_
          show Fin _ p e below s _ _ _ T36 (mkF m 189 #[.val (.int p0), .val (.int p1), .val (.int p2), .val (.int p3), .val (.ref pr), .val (.int (1 : Int32)), .val (.int (1 : Int32)), .val (.ref a31), .val (.ref a33), .val (.int (1 : Int32)), .val (.ref o36)] [])
          refine Fin.go (fun _ k => XS.aload X36.here hx rfl (hb hby at_189) rfl rfl k) ?_
          show Fin _ p e below s _ _ _ T36 (mkF m 191 #[.val (.int p0), .val (.int p1), .val (.int p2), .val (.int p3), .val (.ref pr), .val (.int (1 : Int32)), .val (.int (1 : Int32)), .val (.ref a31), .val (.ref a33), .val (.int (1 : Int32)), .val (.ref o36)] [(.ref o36)])
          obtain ⟨v37, T37, L37, X37, q37, st37⟩ := callVt X36 hx hZ36 (y := (⟨"com/example/grantwell/grantwell/catalog/Action", "isOnColumn", "()Z"⟩ : MethodName)) hown36 (hw _ w_62) (hw _ w_63) (hw _ w_65) (hw _ w_64) (hw _ w_36) (hw _ w_66) (by decide) (W := 0) (rmColN l Z a0 hw n0 T36.heap O36 o36 0 F36) (rfl : T36.heap = T36.heap) A36 (by decide) (by decide) (by decide) (by decide) (g := (mkF m 191 #[.val (.int p0), .val (.int p1), .val (.int p2), .val (.int p3), .val (.ref pr), .val (.int (1 : Int32)), .val (.int (1 : Int32)), .val (.ref a31), .val (.ref a33), .val (.int (1 : Int32)), .val (.ref o36)] [(.ref o36)])) rfl (by rw [hml]; rfl) (argsL := []) (rest := []) (lenOf pd_ocZ rfl) rfl (by show 2 * 0 + _ ≤ _; exact Nat.le_of_eq rfl) (hb hby at_191)
          obtain ⟨rfl, e37, rfl⟩ := q37
          have N37 := Fr.app N36 (Fr.nil n0)
          refine Fin.go st37 ?_
          show Fin _ p e below s _ _ _ T37 (mkF m 194 #[.val (.int p0), .val (.int p1), .val (.int p2), .val (.int p3), .val (.ref pr), .val (.int (1 : Int32)), .val (.int (1 : Int32)), .val (.ref a31), .val (.ref a33), .val (.int (1 : Int32)), .val (.ref o36)] [(.int (0 : Int32))])
          refine Fin.go (fun _ k => XS.ifNo X37.here hx rfl (hb hby at_194) rfl (XT.i0_ne_f (by decide)) k) ?_
          show Fin _ p e below s _ _ _ T37 (mkF m 197 #[.val (.int p0), .val (.int p1), .val (.int p2), .val (.int p3), .val (.ref pr), .val (.int (1 : Int32)), .val (.int (1 : Int32)), .val (.ref a31), .val (.ref a33), .val (.int (1 : Int32)), .val (.ref o36)] [])
          refine Fin.go (fun _ k => XS.iconst X37.here hx rfl (hb hby at_197) k) ?_
          show Fin _ p e below s _ _ _ T37 (mkF m 198 #[.val (.int p0), .val (.int p1), .val (.int p2), .val (.int p3), .val (.ref pr), .val (.int (1 : Int32)), .val (.int (1 : Int32)), .val (.ref a31), .val (.ref a33), .val (.int (1 : Int32)), .val (.ref o36)] [(.int (1 : Int32))])
          refine Fin.go (fun _ k => XS.goto X37.here hx rfl (pc0 := 198) (pc' := 202) rfl (hb hby at_198) (by decide) (by decide) k) ?_
          show Fin _ p e below s _ _ _ T37 (mkF m 202 #[.val (.int p0), .val (.int p1), .val (.int p2), .val (.int p3), .val (.ref pr), .val (.int (1 : Int32)), .val (.int (1 : Int32)), .val (.ref a31), .val (.ref a33), .val (.int (1 : Int32)), .val (.ref o36)] [(.int (1 : Int32))])
          exact Fin.leaveH X37 hS36 (Nat.le_refl T36.heap.size) hZ36 hEL e37 RR36 hlk (v := some (.int (nar .boolean (1 : Int32)))) (fun h => by rw [hret] at h; cases h) (by decide) (by decide) ⟨rfl, N37⟩ (fun fs hr => retN X37 hx (t := .boolean) hret (by simp) (hb hby at_202) hr)
      · refine Fin.go (fun _ k => XS.ifNo X13.here hx rfl (hb hby at_58) rfl (XT.i0_eq_f c58) k) ?_
        show Fin _ p e below s _ _ _ T13 (mkF m 61 #[.val (.int p0), .val (.int p1), .val (.int p2), .val (.int p3), .val (.ref pr), .val (.int (1 : Int32)), .val (.int (1 : Int32)), .val .null, .unset, .unset, .unset] [])
        obtain ⟨T38, h38, X38, e38, E38, A38, D38, U38, st38⟩ := newO X13 hx hZ hown (hw _ w_12) (hw _ w_13) (hw _ w_14) e13 (g := (mkF m 61 #[.val (.int p0), .val (.int p1), .val (.int p2), .val (.int p3), .val (.ref pr), .val (.int (1 : Int32)), .val (.int (1 : Int32)), .val .null, .unset, .unset, .unset] [])) rfl (hb hby at_61) (by decide) (by decide)
        obtain ⟨a38, g38⟩ : ∃ z, z = h0.size := ⟨_, rfl⟩
        rw [← g38] at A38 D38 U38 st38
        refine Fin.go st38 ?_
        have O38 := O.ext E38
        have hk38 := Nat.le_trans (Nat.zero_le _) E38.1
        have RR38 := RR0.trans (CHr.ext E38 RR0.1)
        have n38 : n0 ≤ a38 := by have := O.2.1; have := O.1; omega
        have sf38 := (Safe.new (Z := Z) (EL := EL) (vm := s.vm) (Nat.le_of_eq g38.symm)).ext E38 RR0.1
        have F38_value : Fld Z h38 a38 "java/lang/String" "value" "[B" .null := D38 (Or.inr (hw _ w_28)) (ty := (.array .byte)) (by decide)
        have F38_coder : Fld Z h38 a38 "java/lang/String" "coder" "B" (.int (0 : Int32)) := D38 (Or.inr (hw _ w_29)) (ty := .byte) (by decide)
        show Fin _ p e below s _ _ _ T38 (mkF m 64 #[.val (.int p0), .val (.int p1), .val (.int p2), .val (.int p3), .val (.ref pr), .val (.int (1 : Int32)), .val (.int (1 : Int32)), .val .null, .unset, .unset, .unset] [(.ref a38)])
        refine Fin.go (fun _ k => XS.dup X38.here hx rfl (hb hby at_64) rfl rfl k) ?_
        show Fin _ p e below s _ _ _ T38 (mkF m 65 #[.val (.int p0), .val (.int p1), .val (.int p2), .val (.int p3), .val (.ref pr), .val (.int (1 : Int32)), .val (.int (1 : Int32)), .val .null, .unset, .unset, .unset] [(.ref a38), (.ref a38)])
        refine Fin.go (fun _ k => XS.iconst X38.here hx rfl (hb hby at_65) k) ?_
        show Fin _ p e below s _ _ _ T38 (mkF m 66 #[.val (.int p0), .val (.int p1), .val (.int p2), .val (.int p3), .val (.ref pr), .val (.int (1 : Int32)), .val (.int (1 : Int32)), .val .null, .unset, .unset, .unset] [(.int (0 : Int32)), (.ref a38), (.ref a38)])
        obtain ⟨T39, h39, k39, X39, e39, E39, A39, st39⟩ := newP X38 hx hZ (aty := .char) (hw _ w_15) e38 (g := (mkF m 66 #[.val (.int p0), .val (.int p1), .val (.int p2), .val (.int p3), .val (.ref pr), .val (.int (1 : Int32)), .val (.int (1 : Int32)), .val .null, .unset, .unset, .unset] [(.int (0 : Int32)), (.ref a38), (.ref a38)])) rfl (hb hby at_66) rfl (by decide : ¬ ((0 : Int32) < (0 : Int32))) (cap := 0) (by decide) (by decide) (by decide) (by decide)
        obtain ⟨a39, g39⟩ : ∃ z, z = h38.size := ⟨_, rfl⟩
        rw [← g39] at A39 st39
        refine Fin.go st39 ?_
        have O39 := O38.ext E39
        have hk39 := Nat.le_trans hk38 E39.1
        have RR39 := RR38.trans (CHr.ext E39 RR38.1)
        have n39 : n0 ≤ a39 := by have := O38.2.1; have := O38.1; omega
        have V39 : Arv Z h39 a39 k39 .char (0 : Int32) [] (.int (0 : Int32)) := (Arv.new A39 (by decide))
        show Fin _ p e below s _ _ _ T39 (mkF m 68 #[.val (.int p0), .val (.int p1), .val (.int p2), .val (.int p3), .val (.ref pr), .val (.int (1 : Int32)), .val (.int (1 : Int32)), .val .null, .unset, .unset, .unset] [(.ref a39), (.ref a38), (.ref a38)])
        obtain ⟨v40, T40, L40, X40, hS40, hZ40, hown40, RC40, q40, st40⟩ := callCtH X39 hx hZ (y := (⟨"java/lang/String", "<init>", "([C)V"⟩ : MethodName)) rfl hown (hw _ w_16) (hw _ w_17) (hw _ w_14) (hw _ w_18) (by decide) (W := 1) (rmStr0 l Z a0 hw n0 h39 O39 a38 a39 k39 V39 (A38.ext E39) (F38_coder.ext E39) (F38_value.ext E39) n38) e39 hS hk39 hEL RR39.1 (by decide) (by decide) (by decide) (by decide) (g := (mkF m 68 #[.val (.int p0), .val (.int p1), .val (.int p2), .val (.int p3), .val (.ref pr), .val (.int (1 : Int32)), .val (.int (1 : Int32)), .val .null, .unset, .unset, .unset] [(.ref a39), (.ref a38), (.ref a38)])) rfl (by rw [hml]; rfl) (a := a38) (argsL := [(.ref a39)]) (rest := [(.ref a38)]) (lenOf pd_oACcV rfl) rfl (by show 2 * 0 + _ ≤ _; exact Nat.le_of_eq rfl) (hb hby at_68)
        obtain ⟨rfl, Nq40, Kq40, A40, C40, d40, kd40, F40, V40⟩ := q40
        have N40 := Fr.app N11 Nq40
        have O40 := O39.keep Kq40 (allS n38 all0)
        have RR40 := RR39.trans RC40
        refine Fin.go st40 ?_
        have V40_a39 := (V39.keep Kq40 (ninS (Ne.symm (Nat.ne_of_lt (Nat.lt_of_lt_of_eq A38.lt g39.symm))) nin0))
        show Fin _ p e below s _ _ _ T40 (mkF m 71 #[.val (.int p0), .val (.int p1), .val (.int p2), .val (.int p3), .val (.ref pr), .val (.int (1 : Int32)), .val (.int (1 : Int32)), .val .null, .unset, .unset, .unset] [(.ref a38)])
        refine Fin.go (fun _ k => XS.astore X40.here hx rfl (hb hby at_71) rfl rfl (l' := #[.val (.int p0), .val (.int p1), .val (.int p2), .val (.int p3), .val (.ref pr), .val (.int (1 : Int32)), .val (.int (1 : Int32)), .val (.ref a38), .unset, .unset, .unset]) rfl k) ?_
        show Fin _ p e below s _ _ _ T40 (mkF m 73 #[.val (.int p0), .val (.int p1), .val (.int p2), .val (.int p3), .val (.ref pr), .val (.int (1 : Int32)), .val (.int (1 : Int32)), .val (.ref a38), .unset, .unset, .unset] [])
        refine Fin.go (fun _ k => XS.goto X40.here hx rfl (pc0 := 73) (pc' := 147) rfl (hb hby at_73) (by decide) (by decide) k) ?_
        show Fin _ p e below s _ _ _ T40 (mkF m 147 #[.val (.int p0), .val (.int p1), .val (.int p2), .val (.int p3), .val (.ref pr), .val (.int (1 : Int32)), .val (.int (1 : Int32)), .val (.ref a38), .unset, .unset, .unset] [])
        obtain ⟨T41, h41, X41, e41, E41, A41, D41, U41, st41⟩ := newO X40 hx hZ40 hown40 (hw _ w_34) (hw _ w_35) (hw _ w_36) (rfl : T40.heap = T40.heap) (g := (mkF m 147 #[.val (.int p0), .val (.int p1), .val (.int p2), .val (.int p3), .val (.ref pr), .val (.int (1 : Int32)), .val (.int (1 : Int32)), .val (.ref a38), .unset, .unset, .unset] [])) rfl (hb hby at_147) (by decide) (by decide)
        obtain ⟨a41, g41⟩ : ∃ z, z = T40.heap.size := ⟨_, rfl⟩
        rw [← g41] at A41 D41 U41 st41
        refine Fin.go st41 ?_
        have O41 := O40.ext E41
        have hk41 := Nat.le_trans (Nat.le_refl T40.heap.size) E41.1
        have RR41 := RR40.trans (CHr.ext E41 RR40.1)
        have n41 : n0 ≤ a41 := by have := O40.2.1; have := O40.1; omega
        have F41_privilege : Fld Z h41 a41 "com/example/grantwell/grantwell/catalog/Action" "privilege" "Lcom/example/grantwell/grantwell/catalog/Privilege;" .null := D41 (Or.inr (hw _ w_59)) (ty := (.object "com/example/grantwell/grantwell/catalog/Privilege")) (by decide)
        have F41_column : Fld Z h41 a41 "com/example/grantwell/grantwell/catalog/Action" "column" "Ljava/lang/String;" .null := D41 (Or.inr (hw _ w_61)) (ty := (.object "java/lang/String")) (by decide)
        show Fin _ p e below s _ _ _ T41 (mkF m 150 #[.val (.int p0), .val (.int p1), .val (.int p2), .val (.int p3), .val (.ref pr), .val (.int (1 : Int32)), .val (.int (1 : Int32)), .val (.ref a38), .unset, .unset, .unset] [(.ref a41)])
        refine Fin.go (fun _ k => XS.dup X41.here hx rfl (hb hby at_150) rfl rfl k) ?_
        show Fin _ p e below s _ _ _ T41 (mkF m 151 #[.val (.int p0), .val (.int p1), .val (.int p2), .val (.int p3), .val (.ref pr), .val (.int (1 : Int32)), .val (.int (1 : Int32)), .val (.ref a38), .unset, .unset, .unset] [(.ref a41), (.ref a41)])
        refine Fin.go (fun _ k => XS.aload X41.here hx rfl (hb hby at_151) rfl rfl k) ?_
        show Fin _ p e below s _ _ _ T41 (mkF m 153 #[.val (.int p0), .val (.int p1), .val (.int p2), .val (.int p3), .val (.ref pr), .val (.int (1 : Int32)), .val (.int (1 : Int32)), .val (.ref a38), .unset, .unset, .unset] [(.ref pr), (.ref a41), (.ref a41)])
        refine Fin.go (fun _ k => XS.aload X41.here hx rfl (hb hby at_153) rfl rfl k) ?_
        show Fin _ p e below s _ _ _ T41 (mkF m 155 #[.val (.int p0), .val (.int p1), .val (.int p2), .val (.int p3), .val (.ref pr), .val (.int (1 : Int32)), .val (.int (1 : Int32)), .val (.ref a38), .unset, .unset, .unset] [(.ref a38), (.ref pr), (.ref a41), (.ref a41)])
        obtain ⟨v42, T42, L42, X42, hS42, hZ42, hown42, RC42, q42, st42⟩ := callCtH X41 hx hZ40 (y := (⟨"com/example/grantwell/grantwell/catalog/Action", "<init>", "(Lcom/example/grantwell/grantwell/catalog/Privilege;Ljava/lang/String;)V"⟩ : MethodName)) rfl hown40 (hw _ w_37) (hw _ w_38) (hw _ w_36) (hw _ w_39) (by decide) (W := 1) (rmActR l Z a0 hw n0 h41 O41 a41 pr a38 AP FP A41 F41_privilege F41_column n41) e41 hS40 hk41 hEL RR41.1 (by decide) (by decide) (by decide) (by decide) (g := (mkF m 155 #[.val (.int p0), .val (.int p1), .val (.int p2), .val (.int p3), .val (.ref pr), .val (.int (1 : Int32)), .val (.int (1 : Int32)), .val (.ref a38), .unset, .unset, .unset] [(.ref a38), (.ref pr), (.ref a41), (.ref a41)])) rfl (by rw [hml]; rfl) (a := a41) (argsL := [(.ref pr), (.ref a38)]) (rest := [(.ref a41)]) (lenOf pd_oLcom_example_grantwell_grantwell_catalog_Privilege_Ljava_lang_String_cV rfl) rfl (by show 2 * 0 + _ ≤ _; exact Nat.le_of_eq rfl) (hb hby at_155)
        obtain ⟨rfl, Nq42, Kq42, A42, F42⟩ := q42
        have N42 := Fr.app N40 Nq42
        have O42 := O41.keep Kq42 (allS n41 all0)
        have RR42 := RR41.trans RC42
        refine Fin.go st42 ?_
        have sf42_a38 := (CHr.safe RC42 (A40.ext E41).lt ((CHr.safe RC40 (A38.ext E39).lt (sf38.ext E39 RR38.1)).ext E41 RR40.1))
        have V42_a39 := ((V40_a39.ext E41).keep Kq42 (ninS (Nat.ne_of_lt (Nat.lt_of_lt_of_eq V40_a39.lt g41.symm)) nin0))
        have F42_a38_coder := ((C40.ext E41).keep Kq42 (ninS (Nat.ne_of_lt (Nat.lt_of_lt_of_eq A40.lt g41.symm)) nin0))
        have F42_a38_value := ((F40.ext E41).keep Kq42 (ninS (Nat.ne_of_lt (Nat.lt_of_lt_of_eq A40.lt g41.symm)) nin0))
        have V42_d40 := ((V40.ext E41).keep Kq42 (ninS (Nat.ne_of_lt (Nat.lt_of_lt_of_eq V40.lt g41.symm)) nin0))
        show Fin _ p e below s _ _ _ T42 (mkF m 158 #[.val (.int p0), .val (.int p1), .val (.int p2), .val (.int p3), .val (.ref pr), .val (.int (1 : Int32)), .val (.int (1 : Int32)), .val (.ref a38), .unset, .unset, .unset] [(.ref a41)])
        refine Fin.go (fun _ k => XS.astore X42.here hx rfl (hb hby at_158) rfl rfl (l' := #[.val (.int p0), .val (.int p1), .val (.int p2), .val (.int p3), .val (.ref pr), .val (.int (1 : Int32)), .val (.int (1 : Int32)), .val (.ref a38), .val (.ref a41), .unset, .unset]) rfl k) ?_
        show Fin _ p e below s _ _ _ T42 (mkF m 160 #[.val (.int p0), .val (.int p1), .val (.int p2), .val (.int p3), .val (.ref pr), .val (.int (1 : Int32)), .val (.int (1 : Int32)), .val (.ref a38), .val (.ref a41), .unset, .unset] [])
        refine Fin.go (fun _ k => XS.aload X42.here hx rfl (hb hby at_160) rfl rfl k) ?_
        show Fin _ p e below s _ _ _ T42 (mkF m 162 #[.val (.int p0), .val (.int p1), .val (.int p2), .val (.int p3), .val (.ref pr), .val (.int (1 : Int32)), .val (.int (1 : Int32)), .val (.ref a38), .val (.ref a41), .unset, .unset] [(.ref a41)])
        obtain ⟨v43, T43, L43, X43, q43, st43⟩ := callVt X42 hx hZ42 (y := (⟨"com/example/grantwell/grantwell/catalog/Action", "isOnColumn", "()Z"⟩ : MethodName)) hown42 (hw _ w_62) (hw _ w_63) (hw _ w_65) (hw _ w_64) (hw _ w_36) (hw _ w_66) (by decide) (W := 0) (rmColR l Z a0 hw n0 T42.heap O42 a41 a38 F42) (rfl : T42.heap = T42.heap) A42 (by decide) (by decide) (by decide) (by decide) (g := (mkF m 162 #[.val (.int p0), .val (.int p1), .val (.int p2), .val (.int p3), .val (.ref pr), .val (.int (1 : Int32)), .val (.int (1 : Int32)), .val (.ref a38), .val (.ref a41), .unset, .unset] [(.ref a41)])) rfl (by rw [hml]; rfl) (argsL := []) (rest := []) (lenOf pd_ocZ rfl) rfl (by show 2 * 0 + _ ≤ _; exact Nat.le_of_eq rfl) (hb hby at_162)
        obtain ⟨rfl, e43, rfl⟩ := q43
        have N43 := Fr.app N42 (Fr.nil n0)
        refine Fin.go st43 ?_
        show Fin _ p e below s _ _ _ T43 (mkF m 165 #[.val (.int p0), .val (.int p1), .val (.int p2), .val (.int p3), .val (.ref pr), .val (.int (1 : Int32)), .val (.int (1 : Int32)), .val (.ref a38), .val (.ref a41), .unset, .unset] [(.int (1 : Int32))])
        refine Fin.go (fun _ k => XS.iload X43.here hx rfl (hb hby at_165) rfl k) ?_
        show Fin _ p e below s _ _ _ T43 (mkF m 167 #[.val (.int p0), .val (.int p1), .val (.int p2), .val (.int p3), .val (.ref pr), .val (.int (1 : Int32)), .val (.int (1 : Int32)), .val (.ref a38), .val (.ref a41), .unset, .unset] [(.int (1 : Int32)), (.int (1 : Int32))])
        refine Fin.go (fun _ k => XS.icmpNo X43.here hx rfl (hb hby at_167) rfl (XT.ii_ne_f (by decide)) k) ?_
        show Fin _ p e below s _ _ _ T43 (mkF m 170 #[.val (.int p0), .val (.int p1), .val (.int p2), .val (.int p3), .val (.ref pr), .val (.int (1 : Int32)), .val (.int (1 : Int32)), .val (.ref a38), .val (.ref a41), .unset, .unset] [])
        refine Fin.go (fun _ k => XS.iconst X43.here hx rfl (hb hby at_170) k) ?_
        show Fin _ p e below s _ _ _ T43 (mkF m 171 #[.val (.int p0), .val (.int p1), .val (.int p2), .val (.int p3), .val (.ref pr), .val (.int (1 : Int32)), .val (.int (1 : Int32)), .val (.ref a38), .val (.ref a41), .unset, .unset] [(.int (1 : Int32))])
        refine Fin.go (fun _ k => XS.goto X43.here hx rfl (pc0 := 171) (pc' := 175) rfl (hb hby at_171) (by decide) (by decide) k) ?_
        show Fin _ p e below s _ _ _ T43 (mkF m 175 #[.val (.int p0), .val (.int p1), .val (.int p2), .val (.int p3), .val (.ref pr), .val (.int (1 : Int32)), .val (.int (1 : Int32)), .val (.ref a38), .val (.ref a41), .unset, .unset] [(.int (1 : Int32))])
        refine Fin.go (fun _ k => XS.istore X43.here hx rfl (hb hby at_175) rfl (l' := #[.val (.int p0), .val (.int p1), .val (.int p2), .val (.int p3), .val (.ref pr), .val (.int (1 : Int32)), .val (.int (1 : Int32)), .val (.ref a38), .val (.ref a41), .val (.int (1 : Int32)), .unset]) rfl k) ?_
        show Fin _ p e below s _ _ _ T43 (mkF m 177 #[.val (.int p0), .val (.int p1), .val (.int p2), .val (.int p3), .val (.ref pr), .val (.int (1 : Int32)), .val (.int (1 : Int32)), .val (.ref a38), .val (.ref a41), .val (.int (1 : Int32)), .unset] [])
        refine Fin.go (fun _ k => XS.aload X43.here hx rfl (hb hby at_177) rfl rfl k) ?_
        show Fin _ p e below s _ _ _ T43 (mkF m 179 #[.val (.int p0), .val (.int p1), .val (.int p2), .val (.int p3), .val (.ref pr), .val (.int (1 : Int32)), .val (.int (1 : Int32)), .val (.ref a38), .val (.ref a41), .val (.int (1 : Int32)), .unset] [(.ref pr)])
        obtain ⟨v44, T44, L44, X44, hS44, hZ44, hown44, RC44, q44, st44⟩ := callStH X43 hx hZ42 (y := (⟨"com/example/grantwell/grantwell/catalog/Action", "onTable", "(Lcom/example/grantwell/grantwell/catalog/Privilege;)Lcom/example/grantwell/grantwell/catalog/Action;"⟩ : MethodName)) hown42 (hw _ w_67) (hw _ w_68) (hw _ w_36) (hw _ w_69) (by decide) (W := 0) (rmOT l Z a0 hw n0 T42.heap O42 pr) e43 hS42 (Nat.le_refl T42.heap.size) hEL RR42.1 (by decide) (by decide) (by decide) (by decide) (g := (mkF m 179 #[.val (.int p0), .val (.int p1), .val (.int p2), .val (.int p3), .val (.ref pr), .val (.int (1 : Int32)), .val (.int (1 : Int32)), .val (.ref a38), .val (.ref a41), .val (.int (1 : Int32)), .unset] [(.ref pr)])) rfl (by rw [hml]; rfl) (argsL := [(.ref pr)]) (rest := []) (lenOf pd_oLcom_example_grantwell_grantwell_catalog_Privilege_cLcom_example_grantwell_grantwell_catalog_Action_ rfl) rfl (by show 2 * 0 + _ ≤ _; exact Nat.le_of_eq rfl) (hb hby at_179)
        obtain ⟨o44, rfl, Nq44, Kq44, A44, F44⟩ := q44
        have N44 := Fr.app N43 Nq44
        have O44 := O42.keep Kq44 all0
        have RR44 := RR42.trans RC44
        refine Fin.go st44 ?_
        show Fin _ p e below s _ _ _ T44 (mkF m 182 #[.val (.int p0), .val (.int p1), .val (.int p2), .val (.int p3), .val (.ref pr), .val (.int (1 : Int32)), .val (.int (1 : Int32)), .val (.ref a38), .val (.ref a41), .val (.int (1 : Int32)), .unset] [(.ref o44)])
        refine Fin.go (fun _ k => XS.astore X44.here hx rfl (hb hby at_182) rfl rfl (l' := #[.val (.int p0), .val (.int p1), .val (.int p2), .val (.int p3), .val (.ref pr), .val (.int (1 : Int32)), .val (.int (1 : Int32)), .val (.ref a38), .val (.ref a41), .val (.int (1 : Int32)), .val (.ref o44)]) rfl k) ?_
        show Fin _ p e below s _ _ _ T44 (mkF m 184 #[.val (.int p0), .val (.int p1), .val (.int p2), .val (.int p3), .val (.ref pr), .val (.int (1 : Int32)), .val (.int (1 : Int32)), .val (.ref a38), .val (.ref a41), .val (.int (1 : Int32)), .val (.ref o44)] [])
        refine Fin.go (fun _ k => XS.iload X44.here hx rfl (hb hby at_184) rfl k) ?_
        show Fin _ p e below s _ _ _ T44 (mkF m 186 #[.val (.int p0), .val (.int p1), .val (.int p2), .val (.int p3), .val (.ref pr), .val (.int (1 : Int32)), .val (.int (1 : Int32)), .val (.ref a38), .val (.ref a41), .val (.int (1 : Int32)), .val (.ref o44)] [(.int (1 : Int32))])
        refine Fin.go (fun _ k => XS.ifNo X44.here hx rfl (hb hby at_186) rfl (XT.i0_eq_f (by decide)) k) ?_
        show Fin _ p e below s _ _ _ T44 (mkF m 189 #[.val (.int p0), .val (.int p1), .val (.int p2), .val (.int p3), .val (.ref pr), .val (.int (1 : Int32)), .val (.int (1 : Int32)), .val (.ref a38), .val (.ref a41), .val (.int (1 : Int32)), .val (.ref o44)] [])
        refine Fin.go (fun _ k => XS.aload X44.here hx rfl (hb hby at_189) rfl rfl k) ?_
        show Fin _ p e below s _ _ _ T44 (mkF m 191 #[.val (.int p0), .val (.int p1), .val (.int p2), .val (.int p3), .val (.ref pr), .val (.int (1 : Int32)), .val (.int (1 : Int32)), .val (.ref a38), .val (.ref a41), .val (.int (1 : Int32)), .val (.ref o44)] [(.ref o44)])
        obtain ⟨v45, T45, L45, X45, q45, st45⟩ := callVt X44 hx hZ44 (y := (⟨"com/example/grantwell/grantwell/catalog/Action", "isOnColumn", "()Z"⟩ : MethodName)) hown44 (hw _ w_62) (hw _ w_63) (hw _ w_65) (hw _ w_64) (hw _ w_36) (hw _ w_66) (by decide) (W := 0) (rmColN l Z a0 hw n0 T44.heap O44 o44 0 F44) (rfl : T44.heap = T44.heap) A44 (by decide) (by decide) (by decide) (by decide) (g := (mkF m 191 #[.val (.int p0), .val (.int p1), .val (.int p2), .val (.int p3), .val (.ref pr), .val (.int (1 : Int32)), .val (.int (1 : Int32)), .val (.ref a38), .val (.ref a41), .val (.int (1 : Int32)), .val (.ref o44)] [(.ref o44)])) rfl (by rw [hml]; rfl) (argsL := []) (rest := []) (lenOf pd_ocZ rfl) rfl (by show 2 * 0 + _ ≤ _; exact Nat.le_of_eq rfl) (hb hby at_191)
        obtain ⟨rfl, e45, rfl⟩ := q45
        have N45 := Fr.app N44 (Fr.nil n0)
        refine Fin.go st45 ?_
        show Fin _ p e below s _ _ _ T45 (mkF m 194 #[.val (.int p0), .val (.int p1), .val (.int p2), .val (.int p3), .val (.ref pr), .val (.int (1 : Int32)), .val (.int (1 : Int32)), .val (.ref a38), .val (.ref a41), .val (.int (1 : Int32)), .val (.ref o44)] [(.int (0 : Int32))])
        refine Fin.go (fun _ k => XS.ifNo X45.here hx rfl (hb hby at_194) rfl (XT.i0_ne_f (by decide)) k) ?_
        show Fin _ p e below s _ _ _ T45 (mkF m 197 #[.val (.int p0), .val (.int p1), .val (.int p2), .val (.int p3), .val (.ref pr), .val (.int (1 : Int32)), .val (.int (1 : Int32)), .val (.ref a38), .val (.ref a41), .val (.int (1 : Int32)), .val (.ref o44)] [])
        refine Fin.go (fun _ k => XS.iconst X45.here hx rfl (hb hby at_197) k) ?_
        show Fin _ p e below s _ _ _ T45 (mkF m 198 #[.val (.int p0), .val (.int p1), .val (.int p2), .val (.int p3), .val (.ref pr), .val (.int (1 : Int32)), .val (.int (1 : Int32)), .val (.ref a38), .val (.ref a41), .val (.int (1 : Int32)), .val (.ref o44)] [(.int (1 : Int32))])
        refine Fin.go (fun _ k => XS.goto X45.here hx rfl (pc0 := 198) (pc' := 202) rfl (hb hby at_198) (by decide) (by decide) k) ?_
        show Fin _ p e below s _ _ _ T45 (mkF m 202 #[.val (.int p0), .val (.int p1), .val (.int p2), .val (.int p3), .val (.ref pr), .val (.int (1 : Int32)), .val (.int (1 : Int32)), .val (.ref a38), .val (.ref a41), .val (.int (1 : Int32)), .val (.ref o44)] [(.int (1 : Int32))])
        exact Fin.leaveH X45 hS44 (Nat.le_refl T44.heap.size) hZ44 hEL e45 RR44 hlk (v := some (.int (nar .boolean (1 : Int32)))) (fun h => by rw [hret] at h; cases h) (by decide) (by decide) ⟨rfl, N45⟩ (fun fs hr => retN X45 hx (t := .boolean) hret (by simp) (hb hby at_202) hr)
  · show Fin _ p e below s _ _ _ T11 (mkF m 4 #[.val (.int p0), .val (.int p1), .val (.int p2), .val (.int p3), .unset, .unset, .unset, .unset, .unset, .unset, .unset] [(.ref aD)])
    refine Fin.go (fun _ k => XS.astore X11.here hx rfl (hb hby at_4) rfl rfl (l' := #[.val (.int p0), .val (.int p1), .val (.int p2), .val (.int p3), .val (.ref aD), .unset, .unset, .unset, .unset, .unset, .unset]) rfl k) ?_
    show Fin _ p e below s _ _ _ T11 (mkF m 6 #[.val (.int p0), .val (.int p1), .val (.int p2), .val (.int p3), .val (.ref aD), .unset, .unset, .unset, .unset, .unset, .unset] [])
    refine Fin.go (fun _ k => XS.aload X11.here hx rfl (hb hby at_6) rfl rfl k) ?_
    show Fin _ p e below s _ _ _ T11 (mkF m 8 #[.val (.int p0), .val (.int p1), .val (.int p2), .val (.int p3), .val (.ref aD), .unset, .unset, .unset, .unset, .unset, .unset] [(.ref aD)])
    obtain ⟨T46, X46, e46, st46⟩ := getS2 X11 hx hZ hown (host := "") (Or.inl (hw _ w_8)) Via.refl e11 (S_aD.ext O.2) (g := (mkF m 8 #[.val (.int p0), .val (.int p1), .val (.int p2), .val (.int p3), .val (.ref aD), .unset, .unset, .unset, .unset, .unset, .unset] [(.ref aD)])) rfl (hb hby at_8)
    refine Fin.go st46 ?_
    show Fin _ p e below s _ _ _ T46 (mkF m 11 #[.val (.int p0), .val (.int p1), .val (.int p2), .val (.int p3), .val (.ref aD), .unset, .unset, .unset, .unset, .unset, .unset] [(.ref aD), (.ref aD)])
    refine Fin.go (fun _ k => XT.acmpYes X46.here hx rfl (pc0 := 11) (pc' := 26) rfl (hb hby at_11) rfl rfl rfl (XT.aa_eq_t rfl) (by decide) (by decide) k) ?_
    show Fin _ p e below s _ _ _ T46 (mkF m 26 #[.val (.int p0), .val (.int p1), .val (.int p2), .val (.int p3), .val (.ref aD), .unset, .unset, .unset, .unset, .unset, .unset] [])
    refine Fin.go (fun _ k => XS.iconst X46.here hx rfl (hb hby at_26) k) ?_
    show Fin _ p e below s _ _ _ T46 (mkF m 27 #[.val (.int p0), .val (.int p1), .val (.int p2), .val (.int p3), .val (.ref aD), .unset, .unset, .unset, .unset, .unset, .unset] [(.int (0 : Int32))])
    refine Fin.go (fun _ k => XS.istore X46.here hx rfl (hb hby at_27) rfl (l' := #[.val (.int p0), .val (.int p1), .val (.int p2), .val (.int p3), .val (.ref aD), .val (.int (0 : Int32)), .unset, .unset, .unset, .unset, .unset]) rfl k) ?_
    show Fin _ p e below s _ _ _ T46 (mkF m 29 #[.val (.int p0), .val (.int p1), .val (.int p2), .val (.int p3), .val (.ref aD), .val (.int (0 : Int32)), .unset, .unset, .unset, .unset, .unset] [])
    refine Fin.go (fun _ k => XS.iloadN X46.here hx rfl (hb hby at_29) rfl k) ?_
    show Fin _ p e below s _ _ _ T46 (mkF m 30 #[.val (.int p0), .val (.int p1), .val (.int p2), .val (.int p3), .val (.ref aD), .val (.int (0 : Int32)), .unset, .unset, .unset, .unset, .unset] [(.int p1)])
    refine Fin.go (fun _ k => XS.iconst X46.here hx rfl (hb hby at_30) k) ?_
    show Fin _ p e below s _ _ _ T46 (mkF m 31 #[.val (.int p0), .val (.int p1), .val (.int p2), .val (.int p3), .val (.ref aD), .val (.int (0 : Int32)), .unset, .unset, .unset, .unset, .unset] [(.int (1 : Int32)), (.int p1)])
    refine Fin.go (fun _ k => XS.iand X46.here hx rfl (hb hby at_31) rfl k) ?_
    show Fin _ p e below s _ _ _ T46 (mkF m 32 #[.val (.int p0), .val (.int p1), .val (.int p2), .val (.int p3), .val (.ref aD), .val (.int (0 : Int32)), .unset, .unset, .unset, .unset, .unset] [(.int (p1 &&& (1 : Int32)))])
    by_cases c32 : (p1 &&& (1 : Int32)) = 0
    · refine Fin.go (fun _ k => XS.ifYes X46.here hx rfl (pc0 := 32) (pc' := 44) rfl (hb hby at_32) rfl (XT.i0_eq_t c32) (by decide) (by decide) k) ?_
      show Fin _ p e below s _ _ _ T46 (mkF m 44 #[.val (.int p0), .val (.int p1), .val (.int p2), .val (.int p3), .val (.ref aD), .val (.int (0 : Int32)), .unset, .unset, .unset, .unset, .unset] [])
      refine Fin.go (fun _ k => XS.iconst X46.here hx rfl (hb hby at_44) k) ?_
      show Fin _ p e below s _ _ _ T46 (mkF m 45 #[.val (.int p0), .val (.int p1), .val (.int p2), .val (.int p3), .val (.ref aD), .val (.int (0 : Int32)), .unset, .unset, .unset, .unset, .unset] [(.int (0 : Int32))])
      refine Fin.go (fun _ k => XS.istore X46.here hx rfl (hb hby at_45) rfl (l' := #[.val (.int p0), .val (.int p1), .val (.int p2), .val (.int p3), .val (.ref aD), .val (.int (0 : Int32)), .val (.int (0 : Int32)), .unset, .unset, .unset, .unset]) rfl k) ?_
      show Fin _ p e below s _ _ _ T46 (mkF m 47 #[.val (.int p0), .val (.int p1), .val (.int p2), .val (.int p3), .val (.ref aD), .val (.int (0 : Int32)), .val (.int (0 : Int32)), .unset, .unset, .unset, .unset] [])
      refine Fin.go (fun _ k => XS.aconstNull X46.here hx rfl (hb hby at_47) k) ?_
      show Fin _ p e below s _ _ _ T46 (mkF m 48 #[.val (.int p0), .val (.int p1), .val (.int p2), .val (.int p3), .val (.ref aD), .val (.int (0 : Int32)), .val (.int (0 : Int32)), .unset, .unset, .unset, .unset] [.null])
      refine Fin.go (fun _ k => XS.astore X46.here hx rfl (hb hby at_48) rfl rfl (l' := #[.val (.int p0), .val (.int p1), .val (.int p2), .val (.int p3), .val (.ref aD), .val (.int (0 : Int32)), .val (.int (0 : Int32)), .val .null, .unset, .unset, .unset]) rfl k) ?_
      show Fin _ p e below s _ _ _ T46 (mkF m 50 #[.val (.int p0), .val (.int p1), .val (.int p2), .val (.int p3), .val (.ref aD), .val (.int (0 : Int32)), .val (.int (0 : Int32)), .val .null, .unset, .unset, .unset] [])
      refine Fin.go (fun _ k => XS.iload X46.here hx rfl (hb hby at_50) rfl k) ?_
      show Fin _ p e below s _ _ _ T46 (mkF m 52 #[.val (.int p0), .val (.int p1), .val (.int p2), .val (.int p3), .val (.ref aD), .val (.int (0 : Int32)), .val (.int (0 : Int32)), .val .null, .unset, .unset, .unset] [(.int (0 : Int32))])
      refine Fin.go (fun _ k => XS.ifYes X46.here hx rfl (pc0 := 52) (pc' := 147) rfl (hb hby at_52) rfl (XT.i0_eq_t (by decide)) (by decide) (by decide) k) ?_
      show Fin _ p e below s _ _ _ T46 (mkF m 147 #[.val (.int p0), .val (.int p1), .val (.int p2), .val (.int p3), .val (.ref aD), .val (.int (0 : Int32)), .val (.int (0 : Int32)), .val .null, .unset, .unset, .unset] [])
      obtain ⟨T47, h47, X47, e47, E47, A47, D47, U47, st47⟩ := newO X46 hx hZ hown (hw _ w_34) (hw _ w_35) (hw _ w_36) e46 (g := (mkF m 147 #[.val (.int p0), .val (.int p1), .val (.int p2), .val (.int p3), .val (.ref aD), .val (.int (0 : Int32)), .val (.int (0 : Int32)), .val .null, .unset, .unset, .unset] [])) rfl (hb hby at_147) (by decide) (by decide)
      obtain ⟨a47, g47⟩ : ∃ z, z = h0.size := ⟨_, rfl⟩
      rw [← g47] at A47 D47 U47 st47
      refine Fin.go st47 ?_
      have O47 := O.ext E47
      have hk47 := Nat.le_trans (Nat.zero_le _) E47.1
      have RR47 := RR0.trans (CHr.ext E47 RR0.1)
      have n47 : n0 ≤ a47 := by have := O.2.1; have := O.1; omega
      have F47_privilege : Fld Z h47 a47 "com/example/grantwell/grantwell/catalog/Action" "privilege" "Lcom/example/grantwell/grantwell/catalog/Privilege;" .null := D47 (Or.inr (hw _ w_59)) (ty := (.object "com/example/grantwell/grantwell/catalog/Privilege")) (by decide)
      have F47_column : Fld Z h47 a47 "com/example/grantwell/grantwell/catalog/Action" "column" "Ljava/lang/String;" .null := D47 (Or.inr (hw _ w_61)) (ty := (.object "java/lang/String")) (by decide)
      show Fin _ p e below s _ _ _ T47 (mkF m 150 #[.val (.int p0), .val (.int p1), .val (.int p2), .val (.int p3), .val (.ref aD), .val (.int (0 : Int32)), .val (.int (0 : Int32)), .val .null, .unset, .unset, .unset] [(.ref a47)])
      refine Fin.go (fun _ k => XS.dup X47.here hx rfl (hb hby at_150) rfl rfl k) ?_
      show Fin _ p e below s _ _ _ T47 (mkF m 151 #[.val (.int p0), .val (.int p1), .val (.int p2), .val (.int p3), .val (.ref aD), .val (.int (0 : Int32)), .val (.int (0 : Int32)), .val .null, .unset, .unset, .unset] [(.ref a47), (.ref a47)])
      refine Fin.go (fun _ k => XS.aload X47.here hx rfl (hb hby at_151) rfl rfl k) ?_
      show Fin _ p e below s _ _ _ T47 (mkF m 153 #[.val (.int p0), .val (.int p1), .val (.int p2), .val (.int p3), .val (.ref aD), .val (.int (0 : Int32)), .val (.int (0 : Int32)), .val .null, .unset, .unset, .unset] [(.ref aD), (.ref a47), (.ref a47)])
      refine Fin.go (fun _ k => XS.aload X47.here hx rfl (hb hby at_153) rfl rfl k) ?_
      show Fin _ p e below s _ _ _ T47 (mkF m 155 #[.val (.int p0), .val (.int p1), .val (.int p2), .val (.int p3), .val (.ref aD), .val (.int (0 : Int32)), .val (.int (0 : Int32)), .val .null, .unset, .unset, .unset] [.null, (.ref aD), (.ref a47), (.ref a47)])
      obtain ⟨v48, T48, L48, X48, hS48, hZ48, hown48, RC48, q48, st48⟩ := callCtH X47 hx hZ (y := (⟨"com/example/grantwell/grantwell/catalog/Action", "<init>", "(Lcom/example/grantwell/grantwell/catalog/Privilege;Ljava/lang/String;)V"⟩ : MethodName)) rfl hown (hw _ w_37) (hw _ w_38) (hw _ w_36) (hw _ w_39) (by decide) (W := 1) (rmActN l Z a0 hw n0 h47 O47 a47 aD A47 F47_privilege F47_column n47) e47 hS hk47 hEL RR47.1 (by decide) (by decide) (by decide) (by decide) (g := (mkF m 155 #[.val (.int p0), .val (.int p1), .val (.int p2), .val (.int p3), .val (.ref aD), .val (.int (0 : Int32)), .val (.int (0 : Int32)), .val .null, .unset, .unset, .unset] [.null, (.ref aD), (.ref a47), (.ref a47)])) rfl (by rw [hml]; rfl) (a := a47) (argsL := [(.ref aD), .null]) (rest := [(.ref a47)]) (lenOf pd_oLcom_example_grantwell_grantwell_catalog_Privilege_Ljava_lang_String_cV rfl) rfl (by show 2 * 0 + _ ≤ _; exact Nat.le_of_eq rfl) (hb hby at_155)
      obtain ⟨rfl, Nq48, Kq48, A48, F48⟩ := q48
      have N48 := Fr.app N11 Nq48
      have O48 := O47.keep Kq48 (allS n47 all0)
      have RR48 := RR47.trans RC48
      refine Fin.go st48 ?_
      show Fin _ p e below s _ _ _ T48 (mkF m 158 #[.val (.int p0), .val (.int p1), .val (.int p2), .val (.int p3), .val (.ref aD), .val (.int (0 : Int32)), .val (.int (0 : Int32)), .val .null, .unset, .unset, .unset] [(.ref a47)])
      refine Fin.go (fun _ k => XS.astore X48.here hx rfl (hb hby at_158) rfl rfl (l' := #[.val (.int p0), .val (.int p1), .val (.int p2), .val (.int p3), .val (.ref aD), .val (.int (0 : Int32)), .val (.int (0 : Int32)), .val .null, .val (.ref a47), .unset, .unset]) rfl k) ?_
      show Fin _ p e below s _ _ _ T48 (mkF m 160 #[.val (.int p0), .val (.int p1), .val (.int p2), .val (.int p3), .val (.ref aD), .val (.int (0 : Int32)), .val (.int (0 : Int32)), .val .null, .val (.ref a47), .unset, .unset] [])
      refine Fin.go (fun _ k => XS.aload X48.here hx rfl (hb hby at_160) rfl rfl k) ?_
      show Fin _ p e below s _ _ _ T48 (mkF m 162 #[.val (.int p0), .val (.int p1), .val (.int p2), .val (.int p3), .val (.ref aD), .val (.int (0 : Int32)), .val (.int (0 : Int32)), .val .null, .val (.ref a47), .unset, .unset] [(.ref a47)])
      obtain ⟨v49, T49, L49, X49, q49, st49⟩ := callVt X48 hx hZ48 (y := (⟨"com/example/grantwell/grantwell/catalog/Action", "isOnColumn", "()Z"⟩ : MethodName)) hown48 (hw _ w_62) (hw _ w_63) (hw _ w_65) (hw _ w_64) (hw _ w_36) (hw _ w_66) (by decide) (W := 0) (rmColN l Z a0 hw n0 T48.heap O48 a47 0 F48) (rfl : T48.heap = T48.heap) A48 (by decide) (by decide) (by decide) (by decide) (g := (mkF m 162 #[.val (.int p0), .val (.int p1), .val (.int p2), .val (.int p3), .val (.ref aD), .val (.int (0 : Int32)), .val (.int (0 : Int32)), .val .null, .val (.ref a47), .unset, .unset] [(.ref a47)])) rfl (by rw [hml]; rfl) (argsL := []) (rest := []) (lenOf pd_ocZ rfl) rfl (by show 2 * 0 + _ ≤ _; exact Nat.le_of_eq rfl) (hb hby at_162)
      obtain ⟨rfl, e49, rfl⟩ := q49
      have N49 := Fr.app N48 (Fr.nil n0)
      refine Fin.go st49 ?_
      show Fin _ p e below s _ _ _ T49 (mkF m 165 #[.val (.int p0), .val (.int p1), .val (.int p2), .val (.int p3), .val (.ref aD), .val (.int (0 : Int32)), .val (.int (0 : Int32)), .val .null, .val (.ref a47), .unset, .unset] [(.int (0 : Int32))])
      refine Fin.go (fun _ k => XS.iload X49.here hx rfl (hb hby at_165) rfl k) ?_
      show Fin _ p e below s _ _ _ T49 (mkF m 167 #[.val (.int p0), .val (.int p1), .val (.int p2), .val (.int p3), .val (.ref aD), .val (.int (0 : Int32)), .val (.int (0 : Int32)), .val .null, .val (.ref a47), .unset, .unset] [(.int (0 : Int32)), (.int (0 : Int32))])
      refine Fin.go (fun _ k => XS.icmpNo X49.here hx rfl (hb hby at_167) rfl (XT.ii_ne_f (by decide)) k) ?_
      show Fin _ p e below s _ _ _ T49 (mkF m 170 #[.val (.int p0), .val (.int p1), .val (.int p2), .val (.int p3), .val (.ref aD), .val (.int (0 : Int32)), .val (.int (0 : Int32)), .val .null, .val (.ref a47), .unset, .unset] [])
      refine Fin.go (fun _ k => XS.iconst X49.here hx rfl (hb hby at_170) k) ?_
      show Fin _ p e below s _ _ _ T49 (mkF m 171 #[.val (.int p0), .val (.int p1), .val (.int p2), .val (.int p3), .val (.ref aD), .val (.int (0 : Int32)), .val (.int (0 : Int32)), .val .null, .val (.ref a47), .unset, .unset] [(.int (1 : Int32))])
      refine Fin.go (fun _ k => XS.goto X49.here hx rfl (pc0 := 171) (pc' := 175) rfl (hb hby at_171) (by decide) (by decide) k) ?_
      show Fin _ p e below s _ _ _ T49 (mkF m 175 #[.val (.int p0), .val (.int p1), .val (.int p2), .val (.int p3), .val (.ref aD), .val (.int (0 : Int32)), .val (.int (0 : Int32)), .val .null, .val (.ref a47), .unset, .unset] [(.int (1 : Int32))])
      refine Fin.go (fun _ k => XS.istore X49.here hx rfl (hb hby at_175) rfl (l' := #[.val (.int p0), .val (.int p1), .val (.int p2), .val (.int p3), .val (.ref aD), .val (.int (0 : Int32)), .val (.int (0 : Int32)), .val .null, .val (.ref a47), .val (.int (1 : Int32)), .unset]) rfl k) ?_
      show Fin _ p e below s _ _ _ T49 (mkF m 177 #[.val (.int p0), .val (.int p1), .val (.int p2), .val (.int p3), .val (.ref aD), .val (.int (0 : Int32)), .val (.int (0 : Int32)), .val .null, .val (.ref a47), .val (.int (1 : Int32)), .unset] [])
      refine Fin.go (fun _ k => XS.aload X49.here hx rfl (hb hby at_177) rfl rfl k) ?_
      show Fin _ p e below s _ _ _ T49 (mkF m 179 #[.val (.int p0), .val (.int p1), .val (.int p2), .val (.int p3), .val (.ref aD), .val (.int (0 : Int32)), .val (.int (0 : Int32)), .val .null, .val (.ref a47), .val (.int (1 : Int32)), .unset] [(.ref aD)])
      obtain ⟨v50, T50, L50, X50, hS50, hZ50, hown50, RC50, q50, st50⟩ := callStH X49 hx hZ48 (y := (⟨"com/example/grantwell/grantwell/catalog/Action", "onTable", "(Lcom/example/grantwell/grantwell/catalog/Privilege;)Lcom/example/grantwell/grantwell/catalog/Action;"⟩ : MethodName)) hown48 (hw _ w_67) (hw _ w_68) (hw _ w_36) (hw _ w_69) (by decide) (W := 0) (rmOT l Z a0 hw n0 T48.heap O48 aD) e49 hS48 (Nat.le_refl T48.heap.size) hEL RR48.1 (by decide) (by decide) (by decide) (by decide) (g := (mkF m 179 #[.val (.int p0), .val (.int p1), .val (.int p2), .val (.int p3), .val (.ref aD), .val (.int (0 : Int32)), .val (.int (0 : Int32)), .val .null, .val (.ref a47), .val (.int (1 : Int32)), .unset] [(.ref aD)])) rfl (by rw [hml]; rfl) (argsL := [(.ref aD)]) (rest := []) (lenOf pd_oLcom_example_grantwell_grantwell_catalog_Privilege_cLcom_example_grantwell_grantwell_catalog_Action_ rfl) rfl (by show 2 * 0 + _ ≤ _; exact Nat.le_of_eq rfl) (hb hby at_179)
      obtain ⟨o50, rfl, Nq50, Kq50, A50, F50⟩ := q50
      have N50 := Fr.app N49 Nq50
      have O50 := O48.keep Kq50 all0
      have RR50 := RR48.trans RC50
      refine Fin.go st50 ?_
      show Fin _ p e below s _ _ _ T50 (mkF m 182 #[.val (.int p0), .val (.int p1), .val (.int p2), .val (.int p3), .val (.ref aD), .val (.int (0 : Int32)), .val (.int (0 : Int32)), .val .null, .val (.ref a47), .val (.int (1 : Int32)), .unset] [(.ref o50)])
      refine Fin.go (fun _ k => XS.astore X50.here hx rfl (hb hby at_182) rfl rfl (l' := #[.val (.int p0), .val (.int p1), .val (.int p2), .val (.int p3), .val (.ref aD), .val (.int (0 : Int32)), .val (.int (0 : Int32)), .val .null, .val (.ref a47), .val (.int (1 : Int32)), .val (.ref o50)]) rfl k) ?_
      show Fin _ p e below s _ _ _ T50 (mkF m 184 #[.val (.int p0), .val (.int p1), .val (.int p2), .val (.int p3), .val (.ref aD), .val (.int (0 : Int32)), .val (.int (0 : Int32)), .val .null, .val (.ref a47), .val (.int (1 : Int32)), .val (.ref o50)] [])
      refine Fin.go (fun _ k => XS.iload X50.here hx rfl (hb hby at_184) rfl k) ?_
      show Fin _ p e below s _ _ _ T50 (mkF m 186 #[.val (.int p0), .val (.int p1), .val (.int p2), .val (.int p3), .val (.ref aD), .val (.int (0 : Int32)), .val (.int (0 : Int32)), .val .null, .val (.ref a47), .val (.int (1 : Int32)), .val (.ref o50)] [(.int (1 : Int32))])
      refine Fin.go (fun _ k => XS.ifNo X50.here hx rfl (hb hby at_186) rfl (XT.i0_eq_f (by decide)) k) ?_
      show Fin _ p e below s _ _ _ T50 (mkF m 189 #[.val (.int p0), .val (.int p1), .val (.int p2), .val (.int p3), .val (.ref aD), .val (.int (0 : Int32)), .val (.int (0 : Int32)), .val .null, .val (.ref a47), .val (.int (1 : Int32)), .val (.ref o50)] [])
      refine Fin.go (fun _ k => XS.aload X50.here hx rfl (hb hby at_189) rfl rfl k) ?_
      show Fin _ p e below s _ _ _ T50 (mkF m 191 #[.val (.int p0), .val (.int p1), .val (.int p2), .val (.int p3), .val (.ref aD), .val (.int (0 : Int32)), .val (.int (0 : Int32)), .val .null, .val (.ref a47), .val (.int (1 : Int32)), .val (.ref o50)] [(.ref o50)])
      obtain ⟨v51, T51, L51, X51, q51, st51⟩ := callVt X50 hx hZ50 (y := (⟨"com/example/grantwell/grantwell/catalog/Action", "isOnColumn", "()Z"⟩ : MethodName)) hown50 (hw _ w_62) (hw _ w_63) (hw _ w_65) (hw _ w_64) (hw _ w_36) (hw _ w_66) (by decide) (W := 0) (rmColN l Z a0 hw n0 T50.heap O50 o50 0 F50) (rfl : T50.heap = T50.heap) A50 (by decide) (by decide) (by decide) (by decide) (g := (mkF m 191 #[.val (.int p0), .val (.int p1), .val (.int p2), .val (.int p3), .val (.ref aD), .val (.int (0 : Int32)), .val (.int (0 : Int32)), .val .null, .val (.ref a47), .val (.int (1 : Int32)), .val (.ref o50)] [(.ref o50)])) rfl (by rw [hml]; rfl) (argsL := []) (rest := []) (lenOf pd_ocZ rfl) rfl (by show 2 * 0 + _ ≤ _; exact Nat.le_of_eq rfl) (hb hby at_191)
      obtain ⟨rfl, e51, rfl⟩ := q51
      have N51 := Fr.app N50 (Fr.nil n0)
      refine Fin.go st51 ?_
      show Fin _ p e below s _ _ _ T51 (mkF m 194 #[.val (.int p0), .val (.int p1), .val (.int p2), .val (.int p3), .val (.ref aD), .val (.int (0 : Int32)), .val (.int (0 : Int32)), .val .null, .val (.ref a47), .val (.int (1 : Int32)), .val (.ref o50)] [(.int (0 : Int32))])
      refine Fin.go (fun _ k => XS.ifNo X51.here hx rfl (hb hby at_194) rfl (XT.i0_ne_f (by decide)) k) ?_
      show Fin _ p e below s _ _ _ T51 (mkF m 197 #[.val (.int p0), .val (.int p1), .val (.int p2), .val (.int p3), .val (.ref aD), .val (.int (0 : Int32)), .val (.int (0 : Int32)), .val .null, .val (.ref a47), .val (.int (1 : Int32)), .val (.ref o50)] [])
      refine Fin.go (fun _ k => XS.iconst X51.here hx rfl (hb hby at_197) k) ?_
      show Fin _ p e below s _ _ _ T51 (mkF m 198 #[.val (.int p0), .val (.int p1), .val (.int p2), .val (.int p3), .val (.ref aD), .val (.int (0 : Int32)), .val (.int (0 : Int32)), .val .null, .val (.ref a47), .val (.int (1 : Int32)), .val (.ref o50)] [(.int (1 : Int32))])
      refine Fin.go (fun _ k => XS.goto X51.here hx rfl (pc0 := 198) (pc' := 202) rfl (hb hby at_198) (by decide) (by decide) k) ?_
      show Fin _ p e below s _ _ _ T51 (mkF m 202 #[.val (.int p0), .val (.int p1), .val (.int p2), .val (.int p3), .val (.ref aD), .val (.int (0 : Int32)), .val (.int (0 : Int32)), .val .null, .val (.ref a47), .val (.int (1 : Int32)), .val (.ref o50)] [(.int (1 : Int32))])
      exact Fin.leaveH X51 hS50 (Nat.le_refl T50.heap.size) hZ50 hEL e51 RR50 hlk (v := some (.int (nar .boolean (1 : Int32)))) (fun h => by rw [hret] at h; cases h) (by decide) (by decide) ⟨rfl, N51⟩ (fun fs hr => retN X51 hx (t := .boolean) hret (by simp) (hb hby at_202) hr)
    · refine Fin.go (fun _ k => XS.ifNo X46.here hx rfl (hb hby at_32) rfl (XT.i0_eq_f c32) k) ?_
      show Fin _ p e below s _ _ _ T46 (mkF m 35 #[.val (.int p0), .val (.int p1), .val (.int p2), .val (.int p3), .val (.ref aD), .val (.int (0 : Int32)), .unset, .unset, .unset, .unset, .unset] [])
      refine Fin.go (fun _ k => XS.iload X46.here hx rfl (hb hby at_35) rfl k) ?_
      show Fin _ p e below s _ _ _ T46 (mkF m 37 #[.val (.int p0), .val (.int p1), .val (.int p2), .val (.int p3), .val (.ref aD), .val (.int (0 : Int32)), .unset, .unset, .unset, .unset, .unset] [(.int (0 : Int32))])
      refine Fin.go (fun _ k => XS.ifYes X46.here hx rfl (pc0 := 37) (pc' := 44) rfl (hb hby at_37) rfl (XT.i0_eq_t (by decide)) (by decide) (by decide) k) ?_
      show Fin _ p e below s _ _ _ T46 (mkF m 44 #[.val (.int p0), .val (.int p1), .val (.int p2), .val (.int p3), .val (.ref aD), .val (.int (0 : Int32)), .unset, .unset, .unset, .unset, .unset] [])
      refine Fin.go (fun _ k => XS.iconst X46.here hx rfl (hb hby at_44) k) ?_
      show Fin _ p e below s _ _ _ T46 (mkF m 45 #[.val (.int p0), .val (.int p1), .val (.int p2), .val (.int p3), .val (.ref aD), .val (.int (0 : Int32)), .unset, .unset, .unset, .unset, .unset] [(.int (0 : Int32))])
      refine Fin.go (fun _ k => XS.istore X46.here hx rfl (hb hby at_45) rfl (l' := #[.val (.int p0), .val (.int p1), .val (.int p2), .val (.int p3), .val (.ref aD), .val (.int (0 : Int32)), .val (.int (0 : Int32)), .unset, .unset, .unset, .unset]) rfl k) ?_
      show Fin _ p e below s _ _ _ T46 (mkF m 47 #[.val (.int p0), .val (.int p1), .val (.int p2), .val (.int p3), .val (.ref aD), .val (.int (0 : Int32)), .val (.int (0 : Int32)), .unset, .unset, .unset, .unset] [])
      refine Fin.go (fun _ k => XS.aconstNull X46.here hx rfl (hb hby at_47) k) ?_
      show Fin _ p e below s _ _ _ T46 (mkF m 48 #[.val (.int p0), .val (.int p1), .val (.int p2), .val (.int p3), .val (.ref aD), .val (.int (0 : Int32)), .val (.int (0 : Int32)), .unset, .unset, .unset, .unset] [.null])
      refine Fin.go (fun _ k => XS.astore X46.here hx rfl (hb hby at_48) rfl rfl (l' := #[.val (.int p0), .val (.int p1), .val (.int p2), .val (.int p3), .val (.ref aD), .val (.int (0 : Int32)), .val (.int (0 : Int32)), .val .null, .unset, .unset, .unset]) rfl k) ?_
      show Fin _ p e below s _ _ _ T46 (mkF m 50 #[.val (.int p0), .val (.int p1), .val (.int p2), .val (.int p3), .val (.ref aD), .val (.int (0 : Int32)), .val (.int (0 : Int32)), .val .null, .unset, .unset, .unset] [])
      refine Fin.go (fun _ k => XS.iload X46.here hx rfl (hb hby at_50) rfl k) ?_
      show Fin _ p e below s _ _ _ T46 (mkF m 52 #[.val (.int p0), .val (.int p1), .val (.int p2), .val (.int p3), .val (.ref aD), .val (.int (0 : Int32)), .val (.int (0 : Int32)), .val .null, .unset, .unset, .unset] [(.int (0 : Int32))])
      refine Fin.go (fun _ k => XS.ifYes X46.here hx rfl (pc0 := 52) (pc' := 147) rfl (hb hby at_52) rfl (XT.i0_eq_t (by decide)) (by decide) (by decide) k) ?_
      show Fin _ p e below s _ _ _ T46 (mkF m 147 #[.val (.int p0), .val (.int p1), .val (.int p2), .val (.int p3), .val (.ref aD), .val (.int (0 : Int32)), .val (.int (0 : Int32)), .val .null, .unset, .unset, .unset] [])
      obtain ⟨T52, h52, X52, e52, E52, A52, D52, U52, st52⟩ := newO X46 hx hZ hown (hw _ w_34) (hw _ w_35) (hw _ w_36) e46 (g := (mkF m 147 #[.val (.int p0), .val (.int p1), .val (.int p2), .val (.int p3), .val (.ref aD), .val (.int (0 : Int32)), .val (.int (0 : Int32)), .val .null, .unset, .unset, .unset] [])) rfl (hb hby at_147) (by decide) (by decide)
      obtain ⟨a52, g52⟩ : ∃ z, z = h0.size := ⟨_, rfl⟩
      rw [← g52] at A52 D52 U52 st52
      refine Fin.go st52 ?_
      have O52 := O.ext E52
      have hk52 := Nat.le_trans (Nat.zero_le _) E52.1
      have RR52 := RR0.trans (CHr.ext E52 RR0.1)
      have n52 : n0 ≤ a52 := by have := O.2.1; have := O.1; omega
      have F52_privilege : Fld Z h52 a52 "com/example/grantwell/grantwell/catalog/Action" "privilege" "Lcom/example/grantwell/grantwell/catalog/Privilege;" .null := D52 (Or.inr (hw _ w_59)) (ty := (.object "com/example/grantwell/grantwell/catalog/Privilege")) (by decide)
      have F52_column : Fld Z h52 a52 "com/example/grantwell/grantwell/catalog/Action" "column" "Ljava/lang/String;" .null := D52 (Or.inr (hw _ w_61)) (ty := (.object "java/lang/String")) (by decide)
      show Fin _ p e below s _ _ _ T52 (mkF m 150 #[.val (.int p0), .val (.int p1), .val (.int p2), .val (.int p3), .val (.ref aD), .val (.int (0 : Int32)), .val (.int (0 : Int32)), .val .null, .unset, .unset, .unset] [(.ref a52)])
      refine Fin.go (fun _ k => XS.dup X52.here hx rfl (hb hby at_150) rfl rfl k) ?_
      show Fin _ p e below s _ _ _ T52 (mkF m 151 #[.val (.int p0), .val (.int p1), .val (.int p2), .val (.int p3), .val (.ref aD), .val (.int (0 : Int32)), .val (.int (0 : Int32)), .val .null, .unset, .unset, .unset] [(.ref a52), (.ref a52)])
      refine Fin.go (fun _ k => XS.aload X52.here hx rfl (hb hby at_151) rfl rfl k) ?_
      show Fin _ p e below s _ _ _ T52 (mkF m 153 #[.val (.int p0), .val (.int p1), .val (.int p2), .val (.int p3), .val (.ref aD), .val (.int (0 : Int32)), .val (.int (0 : Int32)), .val .null, .unset, .unset, .unset] [(.ref aD), (.ref a52), (.ref a52)])
      refine Fin.go (fun _ k => XS.aload X52.here hx rfl (hb hby at_153) rfl rfl k) ?_
      show Fin _ p e below s _ _ _ T52 (mkF m 155 #[.val (.int p0), .val (.int p1), .val (.int p2), .val (.int p3), .val (.ref aD), .val (.int (0 : Int32)), .val (.int (0 : Int32)), .val .null, .unset, .unset, .unset] [.null, (.ref aD), (.ref a52), (.ref a52)])
      obtain ⟨v53, T53, L53, X53, hS53, hZ53, hown53, RC53, q53, st53⟩ := callCtH X52 hx hZ (y := (⟨"com/example/grantwell/grantwell/catalog/Action", "<init>", "(Lcom/example/grantwell/grantwell/catalog/Privilege;Ljava/lang/String;)V"⟩ : MethodName)) rfl hown (hw _ w_37) (hw _ w_38) (hw _ w_36) (hw _ w_39) (by decide) (W := 1) (rmActN l Z a0 hw n0 h52 O52 a52 aD A52 F52_privilege F52_column n52) e52 hS hk52 hEL RR52.1 (by decide) (by decide) (by decide) (by decide) (g := (mkF m 155 #[.val (.int p0), .val (.int p1), .val (.int p2), .val (.int p3), .val (.ref aD), .val (.int (0 : Int32)), .val (.int (0 : Int32)), .val .null, .unset, .unset, .unset] [.null, (.ref aD), (.ref a52), (.ref a52)])) rfl (by rw [hml]; rfl) (a := a52) (argsL := [(.ref aD), .null]) (rest := [(.ref a52)]) (lenOf pd_oLcom_example_grantwell_grantwell_catalog_Privilege_Ljava_lang_String_cV rfl) rfl (by show 2 * 0 + _ ≤ _; exact Nat.le_of_eq rfl) (hb hby at_155)
      obtain ⟨rfl, Nq53, Kq53, A53, F53⟩ := q53
      have N53 := Fr.app N11 Nq53
      have O53 := O52.keep Kq53 (allS n52 all0)
      have RR53 := RR52.trans RC53
      refine Fin.go st53 ?_
      show Fin _ p e below s _ _ _ T53 (mkF m 158 #[.val (.int p0), .val (.int p1), .val (.int p2), .val (.int p3), .val (.ref aD), .val (.int (0 : Int32)), .val (.int (0 : Int32)), .val .null, .unset, .unset, .unset] [(.ref a52)])
      refine Fin.go (fun _ k => XS.astore X53.here hx rfl (hb hby at_158) rfl rfl (l' := #[.val (.int p0), .val (.int p1), .val (.int p2), .val (.int p3), .val (.ref aD), .val (.int (0 : Int32)), .val (.int (0 : Int32)), .val .null, .val (.ref a52), .unset, .unset]) rfl k) ?_
      show Fin _ p e below s _ _ _ T53 (mkF m 160 #[.val (.int p0), .val (.int p1), .val (.int p2), .val (.int p3), .val (.ref aD), .val (.int (0 : Int32)), .val (.int (0 : Int32)), .val .null, .val (.ref a52), .unset, .unset] [])
      refine Fin.go (fun _ k => XS.aload X53.here hx rfl (hb hby at_160) rfl rfl k) ?_
      show Fin _ p e below s _ _ _ T53 (mkF m 162 #[.val (.int p0), .val (.int p1), .val (.int p2), .val (.int p3), .val (.ref aD), .val (.int (0 : Int32)), .val (.int (0 : Int32)), .val .null, .val (.ref a52), .unset, .unset] [(.ref a52)])
      obtain ⟨v54, T54, L54, X54, q54, st54⟩ := callVt X53 hx hZ53 (y := (⟨"com/example/grantwell/grantwell/catalog/Action", "isOnColumn", "()Z"⟩ : MethodName)) hown53 (hw _ w_62) (hw _ w_63) (hw _ w_65) (hw _ w_64) (hw _ w_36) (hw _ w_66) (by decide) (W := 0) (rmColN l Z a0 hw n0 T53.heap O53 a52 0 F53) (rfl : T53.heap = T53.heap) A53 (by decide) (by decide) (by decide) (by decide) (g := (mkF m 162 #[.val (.int p0), .val (.int p1), .val (.int p2), .val (.int p3), .val (.ref aD), .val (.int (0 : Int32)), .val (.int (0 : Int32)), .val .null, .val (.ref a52), .unset, .unset] [(.ref a52)])) rfl (by rw [hml]; rfl) (argsL := []) (rest := []) (lenOf pd_ocZ rfl) rfl (by show 2 * 0 + _ ≤ _; exact Nat.le_of_eq rfl) (hb hby at_162)
      obtain ⟨rfl, e54, rfl⟩ := q54
      have N54 := Fr.app N53 (Fr.nil n0)
      refine Fin.go st54 ?_
      show Fin _ p e below s _ _ _ T54 (mkF m 165 #[.val (.int p0), .val (.int p1), .val (.int p2), .val (.int p3), .val (.ref aD), .val (.int (0 : Int32)), .val (.int (0 : Int32)), .val .null, .val (.ref a52), .unset, .unset] [(.int (0 : Int32))])
      refine Fin.go (fun _ k => XS.iload X54.here hx rfl (hb hby at_165) rfl k) ?_
      show Fin _ p e below s _ _ _ T54 (mkF m 167 #[.val (.int p0), .val (.int p1), .val (.int p2), .val (.int p3), .val (.ref aD), .val (.int (0 : Int32)), .val (.int (0 : Int32)), .val .null, .val (.ref a52), .unset, .unset] [(.int (0 : Int32)), (.int (0 : Int32))])
      refine Fin.go (fun _ k => XS.icmpNo X54.here hx rfl (hb hby at_167) rfl (XT.ii_ne_f (by decide)) k) ?_
      show Fin _ p e below s _ _ _ T54 (mkF m 170 #[.val (.int p0), .val (.int p1), .val (.int p2), .val (.int p3), .val (.ref aD), .val (.int (0 : Int32)), .val (.int (0 : Int32)), .val .null, .val (.ref a52), .unset, .unset] [])
      refine Fin.go (fun _ k => XS.iconst X54.here hx rfl (hb hby at_170) k) ?_
      show Fin _ p e below s _ _ _ T54 (mkF m 171 #[.val (.int p0), .val (.int p1), .val (.int p2), .val (.int p3), .val (.ref aD), .val (.int (0 : Int32)), .val (.int (0 : Int32)), .val .null, .val (.ref a52), .unset, .unset] [(.int (1 : Int32))])
      refine Fin.go (fun _ k => XS.goto X54.here hx rfl (pc0 := 171) (pc' := 175) rfl (hb hby at_171) (by decide) (by decide) k) ?_
      show Fin _ p e below s _ _ _ T54 (mkF m 175 #[.val (.int p0), .val (.int p1), .val (.int p2), .val (.int p3), .val (.ref aD), .val (.int (0 : Int32)), .val (.int (0 : Int32)), .val .null, .val (.ref a52), .unset, .unset] [(.int (1 : Int32))])
      refine Fin.go (fun _ k => XS.istore X54.here hx rfl (hb hby at_175) rfl (l' := #[.val (.int p0), .val (.int p1), .val (.int p2), .val (.int p3), .val (.ref aD), .val (.int (0 : Int32)), .val (.int (0 : Int32)), .val .null, .val (.ref a52), .val (.int (1 : Int32)), .unset]) rfl k) ?_
      show Fin _ p e below s _ _ _ T54 (mkF m 177 #[.val (.int p0), .val (.int p1), .val (.int p2), .val (.int p3), .val (.ref aD), .val (.int (0 : Int32)), .val (.int (0 : Int32)), .val .null, .val (.ref a52), .val (.int (1 : Int32)), .unset] [])
      refine Fin.go (fun _ k => XS.aload X54.here hx rfl (hb hby at_177) rfl rfl k) ?_
      show Fin _ p e below s _ _ _ T54 (mkF m 179 #[.val (.int p0), .val (.int p1), .val (.int p2), .val (.int p3), .val (.ref aD), .val (.int (0 : Int32)), .val (.int (0 : Int32)), .val .null, .val (.ref a52), .val (.int (1 : Int32)), .unset] [(.ref aD)])
      obtain ⟨v55, T55, L55, X55, hS55, hZ55, hown55, RC55, q55, st55⟩ := callStH X54 hx hZ53 (y := (⟨"com/example/grantwell/grantwell/catalog/Action", "onTable", "(Lcom/example/grantwell/grantwell/catalog/Privilege;)Lcom/example/grantwell/grantwell/catalog/Action;"⟩ : MethodName)) hown53 (hw _ w_67) (hw _ w_68) (hw _ w_36) (hw _ w_69) (by decide) (W := 0) (rmOT l Z a0 hw n0 T53.heap O53 aD) e54 hS53 (Nat.le_refl T53.heap.size) hEL RR53.1 (by decide) (by decide) (by decide) (by decide) (g := (mkF m 179 #[.val (.int p0), .val (.int p1), .val (.int p2), .val (.int p3), .val (.ref aD), .val (.int (0 : Int32)), .val (.int (0 : Int32)), .val .null, .val (.ref a52), .val (.int (1 : Int32)), .unset] [(.ref aD)])) rfl (by rw [hml]; rfl) (argsL := [(.ref aD)]) (rest := []) (lenOf pd_oLcom_example_grantwell_grantwell_catalog_Privilege_cLcom_example_grantwell_grantwell_catalog_Action_ rfl) rfl (by show 2 * 0 + _ ≤ _; exact Nat.le_of_eq rfl) (hb hby at_179)
      obtain ⟨o55, rfl, Nq55, Kq55, A55, F55⟩ := q55
      have N55 := Fr.app N54 Nq55
      have O55 := O53.keep Kq55 all0
      have RR55 := RR53.trans RC55
      refine Fin.go st55 ?_
      show Fin _ p e below s _ _ _ T55 (mkF m 182 #[.val (.int p0), .val (.int p1), .val (.int p2), .val (.int p3), .val (.ref aD), .val (.int (0 : Int32)), .val (.int (0 : Int32)), .val .null, .val (.ref a52), .val (.int (1 : Int32)), .unset] [(.ref o55)])
      refine Fin.go (fun _ k => XS.astore X55.here hx rfl (hb hby at_182) rfl rfl (l' := #[.val (.int p0), .val (.int p1), .val (.int p2), .val (.int p3), .val (.ref aD), .val (.int (0 : Int32)), .val (.int (0 : Int32)), .val .null, .val (.ref a52), .val (.int (1 : Int32)), .val (.ref o55)]) rfl k) ?_
      show Fin _ p e below s _ _ _ T55 (mkF m 184 #[.val (.int p0), .val (.int p1), .val (.int p2), .val (.int p3), .val (.ref aD), .val (.int (0 : Int32)), .val (.int (0 : Int32)), .val .null, .val (.ref a52), .val (.int (1 : Int32)), .val (.ref o55)] [])
      refine Fin.go (fun _ k => XS.iload X55.here hx rfl (hb hby at_184) rfl k) ?_
      show Fin _ p e below s _ _ _ T55 (mkF m 186 #[.val (.int p0), .val (.int p1), .val (.int p2), .val (.int p3), .val (.ref aD), .val (.int (0 : Int32)), .val (.int (0 : Int32)), .val .null, .val (.ref a52), .val (.int (1 : Int32)), .val (.ref o55)] [(.int (1 : Int32))])
      refine Fin.go (fun _ k => XS.ifNo X55.here hx rfl (hb hby at_186) rfl (XT.i0_eq_f (by decide)) k) ?_
      show Fin _ p e below s _ _ _ T55 (mkF m 189 #[.val (.int p0), .val (.int p1), .val (.int p2), .val (.int p3), .val (.ref aD), .val (.int (0 : Int32)), .val (.int (0 : Int32)), .val .null, .val (.ref a52), .val (.int (1 : Int32)), .val (.ref o55)] [])
      refine Fin.go (fun _ k => XS.aload X55.here hx rfl (hb hby at_189) rfl rfl k) ?_
      show Fin _ p e below s _ _ _ T55 (mkF m 191 #[.val (.int p0), .val (.int p1), .val (.int p2), .val (.int p3), .val (.ref aD), .val (.int (0 : Int32)), .val (.int (0 : Int32)), .val .null, .val (.ref a52), .val (.int (1 : Int32)), .val (.ref o55)] [(.ref o55)])
      obtain ⟨v56, T56, L56, X56, q56, st56⟩ := callVt X55 hx hZ55 (y := (⟨"com/example/grantwell/grantwell/catalog/Action", "isOnColumn", "()Z"⟩ : MethodName)) hown55 (hw _ w_62) (hw _ w_63) (hw _ w_65) (hw _ w_64) (hw _ w_36) (hw _ w_66) (by decide) (W := 0) (rmColN l Z a0 hw n0 T55.heap O55 o55 0 F55) (rfl : T55.heap = T55.heap) A55 (by decide) (by decide) (by decide) (by decide) (g := (mkF m 191 #[.val (.int p0), .val (.int p1), .val (.int p2), .val (.int p3), .val (.ref aD), .val (.int (0 : Int32)), .val (.int (0 : Int32)), .val .null, .val (.ref a52), .val (.int (1 : Int32)), .val (.ref o55)] [(.ref o55)])) rfl (by rw [hml]; rfl) (argsL := []) (rest := []) (lenOf pd_ocZ rfl) rfl (by show 2 * 0 + _ ≤ _; exact Nat.le_of_eq rfl) (hb hby at_191)
      obtain ⟨rfl, e56, rfl⟩ := q56
      have N56 := Fr.app N55 (Fr.nil n0)
      refine Fin.go st56 ?_
      show Fin _ p e below s _ _ _ T56 (mkF m 194 #[.val (.int p0), .val (.int p1), .val (.int p2), .val (.int p3), .val (.ref aD), .val (.int (0 : Int32)), .val (.int (0 : Int32)), .val .null, .val (.ref a52), .val (.int (1 : Int32)), .val (.ref o55)] [(.int (0 : Int32))])
      refine Fin.go (fun _ k => XS.ifNo X56.here hx rfl (hb hby at_194) rfl (XT.i0_ne_f (by decide)) k) ?_
      show Fin _ p e below s _ _ _ T56 (mkF m 197 #[.val (.int p0), .val (.int p1), .val (.int p2), .val (.int p3), .val (.ref aD), .val (.int (0 : Int32)), .val (.int (0 : Int32)), .val .null, .val (.ref a52), .val (.int (1 : Int32)), .val (.ref o55)] [])
      refine Fin.go (fun _ k => XS.iconst X56.here hx rfl (hb hby at_197) k) ?_
      show Fin _ p e below s _ _ _ T56 (mkF m 198 #[.val (.int p0), .val (.int p1), .val (.int p2), .val (.int p3), .val (.ref aD), .val (.int (0 : Int32)), .val (.int (0 : Int32)), .val .null, .val (.ref a52), .val (.int (1 : Int32)), .val (.ref o55)] [(.int (1 : Int32))])
      refine Fin.go (fun _ k => XS.goto X56.here hx rfl (pc0 := 198) (pc' := 202) rfl (hb hby at_198) (by decide) (by decide) k) ?_
      show Fin _ p e below s _ _ _ T56 (mkF m 202 #[.val (.int p0), .val (.int p1), .val (.int p2), .val (.int p3), .val (.ref aD), .val (.int (0 : Int32)), .val (.int (0 : Int32)), .val .null, .val (.ref a52), .val (.int (1 : Int32)), .val (.ref o55)] [(.int (1 : Int32))])
      exact Fin.leaveH X56 hS55 (Nat.le_refl T55.heap.size) hZ55 hEL e56 RR55 hlk (v := some (.int (nar .boolean (1 : Int32)))) (fun h => by rw [hret] at h; cases h) (by decide) (by decide) ⟨rfl, N56⟩ (fun fs hr => retN X56 hx (t := .boolean) hret (by simp) (hb hby at_202) hr)
  · show Fin _ p e below s _ _ _ T11 (mkF m 4 #[.val (.int p0), .val (.int p1), .val (.int p2), .val (.int p3), .unset, .unset, .unset, .unset, .unset, .unset, .unset] [(.ref aU)])
    refine Fin.go (fun _ k => XS.astore X11.here hx rfl (hb hby at_4) rfl rfl (l' := #[.val (.int p0), .val (.int p1), .val (.int p2), .val (.int p3), .val (.ref aU), .unset, .unset, .unset, .unset, .unset, .unset]) rfl k) ?_
    show Fin _ p e below s _ _ _ T11 (mkF m 6 #[.val (.int p0), .val (.int p1), .val (.int p2), .val (.int p3), .val (.ref aU), .unset, .unset, .unset, .unset, .unset, .unset] [])
    refine Fin.go (fun _ k => XS.aload X11.here hx rfl (hb hby at_6) rfl rfl k) ?_
    show Fin _ p e below s _ _ _ T11 (mkF m 8 #[.val (.int p0), .val (.int p1), .val (.int p2), .val (.int p3), .val (.ref aU), .unset, .unset, .unset, .unset, .unset, .unset] [(.ref aU)])
    obtain ⟨T57, X57, e57, st57⟩ := getS2 X11 hx hZ hown (host := "") (Or.inl (hw _ w_8)) Via.refl e11 (S_aD.ext O.2) (g := (mkF m 8 #[.val (.int p0), .val (.int p1), .val (.int p2), .val (.int p3), .val (.ref aU), .unset, .unset, .unset, .unset, .unset, .unset] [(.ref aU)])) rfl (hb hby at_8)
    refine Fin.go st57 ?_
    show Fin _ p e below s _ _ _ T57 (mkF m 11 #[.val (.int p0), .val (.int p1), .val (.int p2), .val (.int p3), .val (.ref aU), .unset, .unset, .unset, .unset, .unset, .unset] [(.ref aD), (.ref aU)])
    refine Fin.go (fun _ k => XT.acmpNo X57.here hx rfl (hb hby at_11) rfl rfl rfl (XT.aa_eq_f (fun q => nUD (Value.ref.inj q))) k) ?_
    show Fin _ p e below s _ _ _ T57 (mkF m 14 #[.val (.int p0), .val (.int p1), .val (.int p2), .val (.int p3), .val (.ref aU), .unset, .unset, .unset, .unset, .unset, .unset] [])
    refine Fin.go (fun _ k => XS.aload X57.here hx rfl (hb hby at_14) rfl rfl k) ?_
    show Fin _ p e below s _ _ _ T57 (mkF m 16 #[.val (.int p0), .val (.int p1), .val (.int p2), .val (.int p3), .val (.ref aU), .unset, .unset, .unset, .unset, .unset, .unset] [(.ref aU)])
    obtain ⟨T58, X58, e58, st58⟩ := getS2 X57 hx hZ hown (host := "") (Or.inl (hw _ w_10)) Via.refl e57 (S_aU.ext O.2) (g := (mkF m 16 #[.val (.int p0), .val (.int p1), .val (.int p2), .val (.int p3), .val (.ref aU), .unset, .unset, .unset, .unset, .unset, .unset] [(.ref aU)])) rfl (hb hby at_16)
    refine Fin.go st58 ?_
    show Fin _ p e below s _ _ _ T58 (mkF m 19 #[.val (.int p0), .val (.int p1), .val (.int p2), .val (.int p3), .val (.ref aU), .unset, .unset, .unset, .unset, .unset, .unset] [(.ref aU), (.ref aU)])
    refine Fin.go (fun _ k => XT.acmpYes X58.here hx rfl (pc0 := 19) (pc' := 26) rfl (hb hby at_19) rfl rfl rfl (XT.aa_eq_t rfl) (by decide) (by decide) k) ?_
    show Fin _ p e below s _ _ _ T58 (mkF m 26 #[.val (.int p0), .val (.int p1), .val (.int p2), .val (.int p3), .val (.ref aU), .unset, .unset, .unset, .unset, .unset, .unset] [])
    refine Fin.go (fun _ k => XS.iconst X58.here hx rfl (hb hby at_26) k) ?_
    show Fin _ p e below s _ _ _ T58 (mkF m 27 #[.val (.int p0), .val (.int p1), .val (.int p2), .val (.int p3), .val (.ref aU), .unset, .unset, .unset, .unset, .unset, .unset] [(.int (0 : Int32))])
    refine Fin.go (fun _ k => XS.istore X58.here hx rfl (hb hby at_27) rfl (l' := #[.val (.int p0), .val (.int p1), .val (.int p2), .val (.int p3), .val (.ref aU), .val (.int (0 : Int32)), .unset, .unset, .unset, .unset, .unset]) rfl k) ?_
    show Fin _ p e below s _ _ _ T58 (mkF m 29 #[.val (.int p0), .val (.int p1), .val (.int p2), .val (.int p3), .val (.ref aU), .val (.int (0 : Int32)), .unset, .unset, .unset, .unset, .unset] [])
    refine Fin.go (fun _ k => XS.iloadN X58.here hx rfl (hb hby at_29) rfl k) ?_
    show Fin _ p e below s _ _ _ T58 (mkF m 30 #[.val (.int p0), .val (.int p1), .val (.int p2), .val (.int p3), .val (.ref aU), .val (.int (0 : Int32)), .unset, .unset, .unset, .unset, .unset] [(.int p1)])
    refine Fin.go (fun _ k => XS.iconst X58.here hx rfl (hb hby at_30) k) ?_
    show Fin _ p e below s _ _ _ T58 (mkF m 31 #[.val (.int p0), .val (.int p1), .val (.int p2), .val (.int p3), .val (.ref aU), .val (.int (0 : Int32)), .unset, .unset, .unset, .unset, .unset] [(.int (1 : Int32)), (.int p1)])
    refine Fin.go (fun _ k => XS.iand X58.here hx rfl (hb hby at_31) rfl k) ?_
    show Fin _ p e below s _ _ _ T58 (mkF m 32 #[.val (.int p0), .val (.int p1), .val (.int p2), .val (.int p3), .val (.ref aU), .val (.int (0 : Int32)), .unset, .unset, .unset, .unset, .unset] [(.int (p1 &&& (1 : Int32)))])
    by_cases c32 : (p1 &&& (1 : Int32)) = 0
    · refine Fin.go (fun _ k => XS.ifYes X58.here hx rfl (pc0 := 32) (pc' := 44) rfl (hb hby at_32) rfl (XT.i0_eq_t c32) (by decide) (by decide) k) ?_
      show Fin _ p e below s _ _ _ T58 (mkF m 44 #[.val (.int p0), .val (.int p1), .val (.int p2), .val (.int p3), .val (.ref aU), .val (.int (0 : Int32)), .unset, .unset, .unset, .unset, .unset] [])
      refine Fin.go (fun _ k => XS.iconst X58.here hx rfl (hb hby at_44) k) ?_
      show Fin _ p e below s _ _ _ T58 (mkF m 45 #[.val (.int p0), .val (.int p1), .val (.int p2), .val (.int p3), .val (.ref aU), .val (.int (0 : Int32)), .unset, .unset, .unset, .unset, .unset] [(.int (0 : Int32))])
      refine Fin.go (fun _ k => XS.istore X58.here hx rfl (hb hby at_45) rfl (l' := #[.val (.int p0), .val (.int p1), .val (.int p2), .val (.int p3), .val (.ref aU), .val (.int (0 : Int32)), .val (.int (0 : Int32)), .unset, .unset, .unset, .unset]) rfl k) ?_
      show Fin _ p e below s _ _ _ T58 (mkF m 47 #[.val (.int p0), .val (.int p1), .val (.int p2), .val (.int p3), .val (.ref aU), .val (.int (0 : Int32)), .val (.int (0 : Int32)), .unset, .unset, .unset, .unset] [])
      refine Fin.go (fun _ k => XS.aconstNull X58.here hx rfl (hb hby at_47) k) ?_
      show Fin _ p e below s _ _ _ T58 (mkF m 48 #[.val (.int p0), .val (.int p1), .val (.int p2), .val (.int p3), .val (.ref aU), .val (.int (0 : Int32)), .val (.int (0 : Int32)), .unset, .unset, .unset, .unset] [.null])
      refine Fin.go (fun _ k => XS.astore X58.here hx rfl (hb hby at_48) rfl rfl (l' := #[.val (.int p0), .val (.int p1), .val (.int p2), .val (.int p3), .val (.ref aU), .val (.int (0 : Int32)), .val (.int (0 : Int32)), .val .null, .unset, .unset, .unset]) rfl k) ?_
      show Fin _ p e below s _ _ _ T58 (mkF m 50 #[.val (.int p0), .val (.int p1), .val (.int p2), .val (.int p3), .val (.ref aU), .val (.int (0 : Int32)), .val (.int (0 : Int32)), .val .null, .unset, .unset, .unset] [])
      refine Fin.go (fun _ k => XS.iload X58.here hx rfl (hb hby at_50) rfl k) ?_
      show Fin _ p e below s _ _ _ T58 (mkF m 52 #[.val (.int p0), .val (.int p1), .val (.int p2), .val (.int p3), .val (.ref aU), .val (.int (0 : Int32)), .val (.int (0 : Int32)), .val .null, .unset, .unset, .unset] [(.int (0 : Int32))])
      refine Fin.go (fun _ k => XS.ifYes X58.here hx rfl (pc0 := 52) (pc' := 147) rfl (hb hby at_52) rfl (XT.i0_eq_t (by decide)) (by decide) (by decide) k) ?_
      show Fin _ p e below s _ _ _ T58 (mkF m 147 #[.val (.int p0), .val (.int p1), .val (.int p2), .val (.int p3), .val (.ref aU), .val (.int (0 : Int32)), .val (.int (0 : Int32)), .val .null, .unset, .unset, .unset] [])
      obtain ⟨T59, h59, X59, e59, E59, A59, D59, U59, st59⟩ := newO X58 hx hZ hown (hw _ w_34) (hw _ w_35) (hw _ w_36) e58 (g := (mkF m 147 #[.val (.int p0), .val (.int p1), .val (.int p2), .val (.int p3), .val (.ref aU), .val (.int (0 : Int32)), .val (.int (0 : Int32)), .val .null, .unset, .unset, .unset] [])) rfl (hb hby at_147) (by decide) (by decide)
      obtain ⟨a59, g59⟩ : ∃ z, z = h0.size := ⟨_, rfl⟩
      rw [← g59] at A59 D59 U59 st59
      refine Fin.go st59 ?_
      have O59 := O.ext E59
      have hk59 := Nat.le_trans (Nat.zero_le _) E59.1
      have RR59 := RR0.trans (CHr.ext E59 RR0.1)
      have n59 : n0 ≤ a59 := by have := O.2.1; have := O.1; omega
      have F59_privilege : Fld Z h59 a59 "com/example/grantwell/grantwell/catalog/Action" "privilege" "Lcom/example/grantwell/grantwell/catalog/Privilege;" .null := D59 (Or.inr (hw _ w_59)) (ty := (.object "com/example/grantwell/grantwell/catalog/Privilege")) (by decide)
      have F59_column : Fld Z h59 a59 "com/example/grantwell/grantwell/catalog/Action" "column" "Ljava/lang/String;" .null := D59 (Or.inr (hw _ w_61)) (ty := (.object "java/lang/String")) (by decide)
      show Fin _ p e below s _ _ _ T59 (mkF m 150 #[.val (.int p0), .val (.int p1), .val (.int p2), .val (.int p3), .val (.ref aU), .val (.int (0 : Int32)), .val (.int (0 : Int32)), .val .null, .unset, .unset, .unset] [(.ref a59)])
      refine Fin.go (fun _ k => XS.dup X59.here hx rfl (hb hby at_150) rfl rfl k) ?_
      show Fin _ p e below s _ _ _ T59 (mkF m 151 #[.val (.int p0), .val (.int p1), .val (.int p2), .val (.int p3), .val (.ref aU), .val (.int (0 : Int32)), .val (.int (0 : Int32)), .val .null, .unset, .unset, .unset] [(.ref a59), (.ref a59)])
      refine Fin.go (fun _ k => XS.aload X59.here hx rfl (hb hby at_151) rfl rfl k) ?_
      show Fin _ p e below s _ _ _ T59 (mkF m 153 #[.val (.int p0), .val (.int p1), .val (.int p2), .val (.int p3), .val (.ref aU), .val (.int (0 : Int32)), .val (.int (0 : Int32)), .val .null, .unset, .unset, .unset] [(.ref aU), (.ref a59), (.ref a59)])
      refine Fin.go (fun _ k => XS.aload X59.here hx rfl (hb hby at_153) rfl rfl k) ?_
      show Fin _ p e below s _ _ _ T59 (mkF m 155 #[.val (.int p0), .val (.int p1), .val (.int p2), .val (.int p3), .val (.ref aU), .val (.int (0 : Int32)), .val (.int (0 : Int32)), .val .null, .unset, .unset, .unset] [.null, (.ref aU), (.ref a59), (.ref a59)])
      obtain ⟨v60, T60, L60, X60, hS60, hZ60, hown60, RC60, q60, st60⟩ := callCtH X59 hx hZ (y := (⟨"com/example/grantwell/grantwell/catalog/Action", "<init>", "(Lcom/example/grantwell/grantwell/catalog/Privilege;Ljava/lang/String;)V"⟩ : MethodName)) rfl hown (hw _ w_37) (hw _ w_38) (hw _ w_36) (hw _ w_39) (by decide) (W := 1) (rmActN l Z a0 hw n0 h59 O59 a59 aU A59 F59_privilege F59_column n59) e59 hS hk59 hEL RR59.1 (by decide) (by decide) (by decide) (by decide) (g := (mkF m 155 #[.val (.int p0), .val (.int p1), .val (.int p2), .val (.int p3), .val (.ref aU), .val (.int (0 : Int32)), .val (.int (0 : Int32)), .val .null, .unset, .unset, .unset] [.null, (.ref aU), (.ref a59), (.ref a59)])) rfl (by rw [hml]; rfl) (a := a59) (argsL := [(.ref aU), .null]) (rest := [(.ref a59)]) (lenOf pd_oLcom_example_grantwell_grantwell_catalog_Privilege_Ljava_lang_String_cV rfl) rfl (by show 2 * 0 + _ ≤ _; exact Nat.le_of_eq rfl) (hb hby at_155)
      obtain ⟨rfl, Nq60, Kq60, A60, F60⟩ := q60
      have N60 := Fr.app N11 Nq60
      have O60 := O59.keep Kq60 (allS n59 all0)
      have RR60 := RR59.trans RC60
      refine Fin.go st60 ?_
      show Fin _ p e below s _ _ _ T60 (mkF m 158 #[.val (.int p0), .val (.int p1), .val (.int p2), .val (.int p3), .val (.ref aU), .val (.int (0 : Int32)), .val (.int (0 : Int32)), .val .null, .unset, .unset, .unset] [(.ref a59)])
      refine Fin.go (fun _ k => XS.astore X60.here hx rfl (hb hby at_158) rfl rfl (l' := #[.val (.int p0), .val (.int p1), .val (.int p2), .val (.int p3), .val (.ref aU), .val (.int (0 : Int32)), .val (.int (0 : Int32)), .val .null, .val (.ref a59), .unset, .unset]) rfl k) ?_
      show Fin _ p e below s _ _ _ T60 (mkF m 160 #[.val (.int p0), .val (.int p1), .val (.int p2), .val (.int p3), .val (.ref aU), .val (.int (0 : Int32)), .val (.int (0 : Int32)), .val .null, .val (.ref a59), .unset, .unset] [])
      refine Fin.go (fun _ k => XS.aload X60.here hx rfl (hb hby at_160) rfl rfl k) ?_
      show Fin _ p e below s _ _ _ T60 (mkF m 162 #[.val (.int p0), .val (.int p1), .val (.int p2), .val (.int p3), .val (.ref aU), .val (.int (0 : Int32)), .val (.int (0 : Int32)), .val .null, .val (.ref a59), .unset, .unset] [(.ref a59)])
      obtain ⟨v61, T61, L61, X61, q61, st61⟩ := callVt X60 hx hZ60 (y := (⟨"com/example/grantwell/grantwell/catalog/Action", "isOnColumn", "()Z"⟩ : MethodName)) hown60 (hw _ w_62) (hw _ w_63) (hw _ w_65) (hw _ w_64) (hw _ w_36) (hw _ w_66) (by decide) (W := 0) (rmColN l Z a0 hw n0 T60.heap O60 a59 0 F60) (rfl : T60.heap = T60.heap) A60 (by decide) (by decide) (by decide) (by decide) (g := (mkF m 162 #[.val (.int p0), .val (.int p1), .val (.int p2), .val (.int p3), .val (.ref aU), .val (.int (0 : Int32)), .val (.int (0 : Int32)), .val .null, .val (.ref a59), .unset, .unset] [(.ref a59)])) rfl (by rw [hml]; rfl) (argsL := []) (rest := []) (lenOf pd_ocZ rfl) rfl (by show 2 * 0 + _ ≤ _; exact Nat.le_of_eq rfl) (hb hby at_162)
      obtain ⟨rfl, e61, rfl⟩ := q61
      have N61 := Fr.app N60 (Fr.nil n0)
      refine Fin.go st61 ?_
      show Fin _ p e below s _ _ _ T61 (mkF m 165 #[.val (.int p0), .val (.int p1), .val (.int p2), .val (.int p3), .val (.ref aU), .val (.int (0 : Int32)), .val (.int (0 : Int32)), .val .null, .val (.ref a59), .unset, .unset] [(.int (0 : Int32))])
      refine Fin.go (fun _ k => XS.iload X61.here hx rfl (hb hby at_165) rfl k) ?_
      show Fin _ p e below s _ _ _ T61 (mkF m 167 #[.val (.int p0), .val (.int p1), .val (.int p2), .val (.int p3), .val (.ref aU), .val (.int (0 : Int32)), .val (.int (0 : Int32)), .val .null, .val (.ref a59), .unset, .unset] [(.int (0 : Int32)), (.int (0 : Int32))])
      refine Fin.go (fun _ k => XS.icmpNo X61.here hx rfl (hb hby at_167) rfl (XT.ii_ne_f (by decide)) k) ?_
      show Fin _ p e below s _ _ _ T61 (mkF m 170 #[.val (.int p0), .val (.int p1), .val (.int p2), .val (.int p3), .val (.ref aU), .val (.int (0 : Int32)), .val (.int (0 : Int32)), .val .null, .val (.ref a59), .unset, .unset] [])
      refine Fin.go (fun _ k => XS.iconst X61.here hx rfl (hb hby at_170) k) ?_
      show Fin _ p e below s _ _ _ T61 (mkF m 171 #[.val (.int p0), .val (.int p1), .val (.int p2), .val (.int p3), .val (.ref aU), .val (.int (0 : Int32)), .val (.int (0 : Int32)), .val .null, .val (.ref a59), .unset, .unset] [(.int (1 : Int32))])
      refine Fin.go (fun _ k => XS.goto X61.here hx rfl (pc0 := 171) (pc' := 175) rfl (hb hby at_171) (by decide) (by decide) k) ?_
      show Fin _ p e below s _ _ _ T61 (mkF m 175 #[.val (.int p0), .val (.int p1), .val (.int p2), .val (.int p3), .val (.ref aU), .val (.int (0 : Int32)), .val (.int (0 : Int32)), .val .null, .val (.ref a59), .unset, .unset] [(.int (1 : Int32))])
      refine Fin.go (fun _ k => XS.istore X61.here hx rfl (hb hby at_175) rfl (l' := #[.val (.int p0), .val (.int p1), .val (.int p2), .val (.int p3), .val (.ref aU), .val (.int (0 : Int32)), .val (.int (0 : Int32)), .val .null, .val (.ref a59), .val (.int (1 : Int32)), .unset]) rfl k) ?_
      show Fin _ p e below s _ _ _ T61 (mkF m 177 #[.val (.int p0), .val (.int p1), .val (.int p2), .val (.int p3), .val (.ref aU), .val (.int (0 : Int32)), .val (.int (0 : Int32)), .val .null, .val (.ref a59), .val (.int (1 : Int32)), .unset] [])
      refine Fin.go (fun _ k => XS.aload X61.here hx rfl (hb hby at_177) rfl rfl k) ?_
      show Fin _ p e below s _ _ _ T61 (mkF m 179 #[.val (.int p0), .val (.int p1), .val (.int p2), .val (.int p3), .val (.ref aU), .val (.int (0 : Int32)), .val (.int (0 : Int32)), .val .null, .val (.ref a59), .val (.int (1 : Int32)), .unset] [(.ref aU)])
      obtain ⟨v62, T62, L62, X62, hS62, hZ62, hown62, RC62, q62, st62⟩ := callStH X61 hx hZ60 (y := (⟨"com/example/grantwell/grantwell/catalog/Action", "onTable", "(Lcom/example/grantwell/grantwell/catalog/Privilege;)Lcom/example/grantwell/grantwell/catalog/Action;"⟩ : MethodName)) hown60 (hw _ w_67) (hw _ w_68) (hw _ w_36) (hw _ w_69) (by decide) (W := 0) (rmOT l Z a0 hw n0 T60.heap O60 aU) e61 hS60 (Nat.le_refl T60.heap.size) hEL RR60.1 (by decide) (by decide) (by decide) (by decide) (g := (mkF m 179 #[.val (.int p0), .val (.int p1), .val (.int p2), .val (.int p3), .val (.ref aU), .val (.int (0 : Int32)), .val (.int (0 : Int32)), .val .null, .val (.ref a59), .val (.int (1 : Int32)), .unset] [(.ref aU)])) rfl (by rw [hml]; rfl) (argsL := [(.ref aU)]) (rest := []) (lenOf pd_oLcom_example_grantwell_grantwell_catalog_Privilege_cLcom_example_grantwell_grantwell_catalog_Action_ rfl) rfl (by show 2 * 0 + _ ≤ _; exact Nat.le_of_eq rfl) (hb hby at_179)
      obtain ⟨o62, rfl, Nq62, Kq62, A62, F62⟩ := q62
      have N62 := Fr.app N61 Nq62
      have O62 := O60.keep Kq62 all0
      have RR62 := RR60.trans RC62
      refine Fin.go st62 ?_
      show Fin _ p e below s _ _ _ T62 (mkF m 182 #[.val (.int p0), .val (.int p1), .val (.int p2), .val (.int p3), .val (.ref aU), .val (.int (0 : Int32)), .val (.int (0 : Int32)), .val .null, .val (.ref a59), .val (.int (1 : Int32)), .unset] [(.ref o62)])
      refine Fin.go (fun _ k => XS.astore X62.here hx rfl (hb hby at_182) rfl rfl (l' := #[.val (.int p0), .val (.int p1), .val (.int p2), .val (.int p3), .val (.ref aU), .val (.int (0 : Int32)), .val (.int (0 : Int32)), .val .null, .val (.ref a59), .val (.int (1 : Int32)), .val (.ref o62)]) rfl k) ?_
      show Fin _ p e below s _ _ _ T62 (mkF m 184 #[.val (.int p0), .val (.int p1), .val (.int p2), .val (.int p3), .val (.ref aU), .val (.int (0 : Int32)), .val (.int (0 : Int32)), .val .null, .val (.ref a59), .val (.int (1 : Int32)), .val (.ref o62)] [])
      refine Fin.go (fun _ k => XS.iload X62.here hx rfl (hb hby at_184) rfl k) ?_
      show Fin _ p e below s _ _ _ T62 (mkF m 186 #[.val (.int p0), .val (.int p1), .val (.int p2), .val (.int p3), .val (.ref aU), .val (.int (0 : Int32)), .val (.int (0 : Int32)), .val .null, .val (.ref a59), .val (.int (1 : Int32)), .val (.ref o62)] [(.int (1 : Int32))])
      refine Fin.go (fun _ k => XS.ifNo X62.here hx rfl (hb hby at_186) rfl (XT.i0_eq_f (by decide)) k) ?_
      show Fin _ p e below s _ _ _ T62 (mkF m 189 #[.val (.int p0), .val (.int p1), .val (.int p2), .val (.int p3), .val (.ref aU), .val (.int (0 : Int32)), .val (.int (0 : Int32)), .val .null, .val (.ref a59), .val (.int (1 : Int32)), .val (.ref o62)] [])
      refine Fin.go (fun _ k => XS.aload X62.here hx rfl (hb hby at_189) rfl rfl k) ?_
      show Fin _ p e below s _ _ _ T62 (mkF m 191 #[.val (.int p0), .val (.int p1), .val (.int p2), .val (.int p3), .val (.ref aU), .val (.int (0 : Int32)), .val (.int (0 : Int32)), .val .null, .val (.ref a59), .val (.int (1 : Int32)), .val (.ref o62)] [(.ref o62)])
      obtain ⟨v63, T63, L63, X63, q63, st63⟩ := callVt X62 hx hZ62 (y := (⟨"com/example/grantwell/grantwell/catalog/Action", "isOnColumn", "()Z"⟩ : MethodName)) hown62 (hw _ w_62) (hw _ w_63) (hw _ w_65) (hw _ w_64) (hw _ w_36) (hw _ w_66) (by decide) (W := 0) (rmColN l Z a0 hw n0 T62.heap O62 o62 0 F62) (rfl : T62.heap = T62.heap) A62 (by decide) (by decide) (by decide) (by decide) (g := (mkF m 191 #[.val (.int p0), .val (.int p1), .val (.int p2), .val (.int p3), .val (.ref aU), .val (.int (0 : Int32)), .val (.int (0 : Int32)), .val .null, .val (.ref a59), .val (.int (1 : Int32)), .val (.ref o62)] [(.ref o62)])) rfl (by rw [hml]; rfl) (argsL := []) (rest := []) (lenOf pd_ocZ rfl) rfl (by show 2 * 0 + _ ≤ _; exact Nat.le_of_eq rfl) (hb hby at_191)
      obtain ⟨rfl, e63, rfl⟩ := q63
      have N63 := Fr.app N62 (Fr.nil n0)
      refine Fin.go st63 ?_
      show Fin _ p e below s _ _ _ T63 (mkF m 194 #[.val (.int p0), .val (.int p1), .val (.int p2), .val (.int p3), .val (.ref aU), .val (.int (0 : Int32)), .val (.int (0 : Int32)), .val .null, .val (.ref a59), .val (.int (1 : Int32)), .val (.ref o62)] [(.int (0 : Int32))])
      refine Fin.go (fun _ k => XS.ifNo X63.here hx rfl (hb hby at_194) rfl (XT.i0_ne_f (by decide)) k) ?_
      show Fin _ p e below s _ _ _ T63 (mkF m 197 #[.val (.int p0), .val (.int p1), .val (.int p2), .val (.int p3), .val (.ref aU), .val (.int (0 : Int32)), .val (.int (0 : Int32)), .val .null, .val (.ref a59), .val (.int (1 : Int32)), .val (.ref o62)] [])
      refine Fin.go (fun _ k => XS.iconst X63.here hx rfl (hb hby at_197) k) ?_
      show Fin _ p e below s _ _ _ T63 (mkF m 198 #[.val (.int p0), .val (.int p1), .val (.int p2), .val (.int p3), .val (.ref aU), .val (.int (0 : Int32)), .val (.int (0 : Int32)), .val .null, .val (.ref a59), .val (.int (1 : Int32)), .val (.ref o62)] [(.int (1 : Int32))])
      refine Fin.go (fun _ k => XS.goto X63.here hx rfl (pc0 := 198) (pc' := 202) rfl (hb hby at_198) (by decide) (by decide) k) ?_
      show Fin _ p e below s _ _ _ T63 (mkF m 202 #[.val (.int p0), .val (.int p1), .val (.int p2), .val (.int p3), .val (.ref aU), .val (.int (0 : Int32)), .val (.int (0 : Int32)), .val .null, .val (.ref a59), .val (.int (1 : Int32)), .val (.ref o62)] [(.int (1 : Int32))])
      exact Fin.leaveH X63 hS62 (Nat.le_refl T62.heap.size) hZ62 hEL e63 RR62 hlk (v := some (.int (nar .boolean (1 : Int32)))) (fun h => by rw [hret] at h; cases h) (by decide) (by decide) ⟨rfl, N63⟩ (fun fs hr => retN X63 hx (t := .boolean) hret (by simp) (hb hby at_202) hr)
    · refine Fin.go (fun _ k => XS.ifNo X58.here hx rfl (hb hby at_32) rfl (XT.i0_eq_f c32) k) ?_
      show Fin _ p e below s _ _ _ T58 (mkF m 35 #[.val (.int p0), .val (.int p1), .val (.int p2), .val (.int p3), .val (.ref aU), .val (.int (0 : Int32)), .unset, .unset, .unset, .unset, .unset] [])
      refine Fin.go (fun _ k => XS.iload X58.here hx rfl (hb hby at_35) rfl k) ?_
      show Fin _ p e below s _ _ _ T58 (mkF m 37 #[.val (.int p0), .val (.int p1), .val (.int p2), .val (.int p3), .val (.ref aU), .val (.int (0 : Int32)), .unset, .unset, .unset, .unset, .unset] [(.int (0 : Int32))])
      refine Fin.go (fun _ k => XS.ifYes X58.here hx rfl (pc0 := 37) (pc' := 44) rfl (hb hby at_37) rfl (XT.i0_eq_t (by decide)) (by decide) (by decide) k) ?_
      show Fin _ p e below s _ _ _ T58 (mkF m 44 #[.val (.int p0), .val (.int p1), .val (.int p2), .val (.int p3), .val (.ref aU), .val (.int (0 : Int32)), .unset, .unset, .unset, .unset, .unset] [])
      refine Fin.go (fun _ k => XS.iconst X58.here hx rfl (hb hby at_44) k) ?_
      show Fin _ p e below s _ _ _ T58 (mkF m 45 #[.val (.int p0), .val (.int p1), .val (.int p2), .val (.int p3), .val (.ref aU), .val (.int (0 : Int32)), .unset, .unset, .unset, .unset, .unset] [(.int (0 : Int32))])
      refine Fin.go (fun _ k => XS.istore X58.here hx rfl (hb hby at_45) rfl (l' := #[.val (.int p0), .val (.int p1), .val (.int p2), .val (.int p3), .val (.ref aU), .val (.int (0 : Int32)), .val (.int (0 : Int32)), .unset, .unset, .unset, .unset]) rfl k) ?_
      show Fin _ p e below s _ _ _ T58 (mkF m 47 #[.val (.int p0), .val (.int p1), .val (.int p2), .val (.int p3), .val (.ref aU), .val (.int (0 : Int32)), .val (.int (0 : Int32)), .unset, .unset, .unset, .unset] [])
      refine Fin.go (fun _ k => XS.aconstNull X58.here hx rfl (hb hby at_47) k) ?_
      show Fin _ p e below s _ _ _ T58 (mkF m 48 #[.val (.int p0), .val (.int p1), .val (.int p2), .val (.int p3), .val (.ref aU), .val (.int (0 : Int32)), .val (.int (0 : Int32)), .unset, .unset, .unset, .unset] [.null])
      refine Fin.go (fun _ k => XS.astore X58.here hx rfl (hb hby at_48) rfl rfl (l' := #[.val (.int p0), .val (.int p1), .val (.int p2), .val (.int p3), .val (.ref aU), .val (.int (0 : Int32)), .val (.int (0 : Int32)), .val .null, .unset, .unset, .unset]) rfl k) ?_
      show Fin _ p e below s _ _ _ T58 (mkF m 50 #[.val (.int p0), .val (.int p1), .val (.int p2), .val (.int p3), .val (.ref aU), .val (.int (0 : Int32)), .val (.int (0 : Int32)), .val .null, .unset, .unset, .unset] [])
      refine Fin.go (fun _ k => XS.iload X58.here hx rfl (hb hby at_50) rfl k) ?_
      show Fin _ p e below s _ _ _ T58 (mkF m 52 #[.val (.int p0), .val (.int p1), .val (.int p2), .val (.int p3), .val (.ref aU), .val (.int (0 : Int32)), .val (.int (0 : Int32)), .val .null, .unset, .unset, .unset] [(.int (0 : Int32))])
      refine Fin.go (fun _ k => XS.ifYes X58.here hx rfl (pc0 := 52) (pc' := 147) rfl (hb hby at_52) rfl (XT.i0_eq_t (by decide)) (by decide) (by decide) k) ?_
      show Fin _ p e below s _ _ _ T58 (mkF m 147 #[.val (.int p0), .val (.int p1), .val (.int p2), .val (.int p3), .val (.ref aU), .val (.int (0 : Int32)), .val (.int (0 : Int32)), .val .null, .unset, .unset, .unset] [])
      obtain ⟨T64, h64, X64, e64, E64, A64, D64, U64, st64⟩ := newO X58 hx hZ hown (hw _ w_34) (hw _ w_35) (hw _ w_36) e58 (g := (mkF m 147 #[.val (.int p0), .val (.int p1), .val (.int p2), .val (.int p3), .val (.ref aU), .val (.int (0 : Int32)), .val (.int (0 : Int32)), .val .null, .unset, .unset, .unset] [])) rfl (hb hby at_147) (by decide) (by decide)
      obtain ⟨a64, g64⟩ : ∃ z, z = h0.size := ⟨_, rfl⟩
      rw [← g64] at A64 D64 U64 st64
      refine Fin.go st64 ?_
      have O64 := O.ext E64
      have hk64 := Nat.le_trans (Nat.zero_le _) E64.1
      have RR64 := RR0.trans (CHr.ext E64 RR0.1)
      have n64 : n0 ≤ a64 := by have := O.2.1; have := O.1; omega
      have F64_privilege : Fld Z h64 a64 "com/example/grantwell/grantwell/catalog/Action" "privilege" "Lcom/example/grantwell/grantwell/catalog/Privilege;" .null := D64 (Or.inr (hw _ w_59)) (ty := (.object "com/example/grantwell/grantwell/catalog/Privilege")) (by decide)
      have F64_column : Fld Z h64 a64 "com/example/grantwell/grantwell/catalog/Action" "column" "Ljava/lang/String;" .null := D64 (Or.inr (hw _ w_61)) (ty := (.object "java/lang/String")) (by decide)
      show Fin _ p e below s _ _ _ T64 (mkF m 150 #[.val (.int p0), .val (.int p1), .val (.int p2), .val (.int p3), .val (.ref aU), .val (.int (0 : Int32)), .val (.int (0 : Int32)), .val .null, .unset, .unset, .unset] [(.ref a64)])
      refine Fin.go (fun _ k => XS.dup X64.here hx rfl (hb hby at_150) rfl rfl k) ?_
      show Fin _ p e below s _ _ _ T64 (mkF m 151 #[.val (.int p0), .val (.int p1), .val (.int p2), .val (.int p3), .val (.ref aU), .val (.int (0 : Int32)), .val (.int (0 : Int32)), .val .null, .unset, .unset, .unset] [(.ref a64), (.ref a64)])
      refine Fin.go (fun _ k => XS.aload X64.here hx rfl (hb hby at_151) rfl rfl k) ?_
      show Fin _ p e below s _ _ _ T64 (mkF m 153 #[.val (.int p0), .val (.int p1), .val (.int p2), .val (.int p3), .val (.ref aU), .val (.int (0 : Int32)), .val (.int (0 : Int32)), .val .null, .unset, .unset, .unset] [(.ref aU), (.ref a64), (.ref a64)])
      refine Fin.go (fun _ k => XS.aload X64.here hx rfl (hb hby at_153) rfl rfl k) ?_
      show Fin _ p e below s _ _ _ T64 (mkF m 155 #[.val (.int p0), .val (.int p1), .val (.int p2), .val (.int p3), .val (.ref aU), .val (.int (0 : Int32)), .val (.int (0 : Int32)), .val .null, .unset, .unset, .unset] [.null, (.ref aU), (.ref a64), (.ref a64)])
      obtain ⟨v65, T65, L65, X65, hS65, hZ65, hown65, RC65, q65, st65⟩ := callCtH X64 hx hZ (y := (⟨"com/example/grantwell/grantwell/catalog/Action", "<init>", "(Lcom/example/grantwell/grantwell/catalog/Privilege;Ljava/lang/String;)V"⟩ : MethodName)) rfl hown (hw _ w_37) (hw _ w_38) (hw _ w_36) (hw _ w_39) (by decide) (W := 1) (rmActN l Z a0 hw n0 h64 O64 a64 aU A64 F64_privilege F64_column n64) e64 hS hk64 hEL RR64.1 (by decide) (by decide) (by decide) (by decide) (g := (mkF m 155 #[.val (.int p0), .val (.int p1), .val (.int p2), .val (.int p3), .val (.ref aU), .val (.int (0 : Int32)), .val (.int (0 : Int32)), .val .null, .unset, .unset, .unset] [.null, (.ref aU), (.ref a64), (.ref a64)])) rfl (by rw [hml]; rfl) (a := a64) (argsL := [(.ref aU), .null]) (rest := [(.ref a64)]) (lenOf pd_oLcom_example_grantwell_grantwell_catalog_Privilege_Ljava_lang_String_cV rfl) rfl (by show 2 * 0 + _ ≤ _; exact Nat.le_of_eq rfl) (hb hby at_155)
      obtain ⟨rfl, Nq65, Kq65, A65, F65⟩ := q65
      have N65 := Fr.app N11 Nq65
      have O65 := O64.keep Kq65 (allS n64 all0)
      have RR65 := RR64.trans RC65
      refine Fin.go st65 ?_
      show Fin _ p e below s _ _ _ T65 (mkF m 158 #[.val (.int p0), .val (.int p1), .val (.int p2), .val (.int p3), .val (.ref aU), .val (.int (0 : Int32)), .val (.int (0 : Int32)), .val .null, .unset, .unset, .unset] [(.ref a64)])
      refine Fin.go (fun _ k => XS.astore X65.here hx rfl (hb hby at_158) rfl rfl (l' := #[.val (.int p0), .val (.int p1), .val (.int p2), .val (.int p3), .val (.ref aU), .val (.int (0 : Int32)), .val (.int (0 : Int32)), .val .null, .val (.ref a64), .unset, .unset]) rfl k) ?_
      show Fin _ p e below s _ _ _ T65 (mkF m 160 #[.val (.int p0), .val (.int p1), .val (.int p2), .val (.int p3), .val (.ref aU), .val (.int (0 : Int32)), .val (.int (0 : Int32)), .val .null, .val (.ref a64), .unset, .unset] [])
      refine Fin.go (fun _ k => XS.aload X65.here hx rfl (hb hby at_160) rfl rfl k) ?_
      show Fin _ p e below s _ _ _ T65 (mkF m 162 #[.val (.int p0), .val (.int p1), .val (.int p2), .val (.int p3), .val (.ref aU), .val (.int (0 : Int32)), .val (.int (0 : Int32)), .val .null, .val (.ref a64), .unset, .unset] [(.ref a64)])
      obtain ⟨v66, T66, L66, X66, q66, st66⟩ := callVt X65 hx hZ65 (y := (⟨"com/example/grantwell/grantwell/catalog/Action", "isOnColumn", "()Z"⟩ : MethodName)) hown65 (hw _ w_62) (hw _ w_63) (hw _ w_65) (hw _ w_64) (hw _ w_36) (hw _ w_66) (by decide) (W := 0) (rmColN l Z a0 hw n0 T65.heap O65 a64 0 F65) (rfl : T65.heap = T65.heap) A65 (by decide) (by decide) (by decide) (by decide) (g := (mkF m 162 #[.val (.int p0), .val (.int p1), .val (.int p2), .val (.int p3), .val (.ref aU), .val (.int (0 : Int32)), .val (.int (0 : Int32)), .val .null, .val (.ref a64), .unset, .unset] [(.ref a64)])) rfl (by rw [hml]; rfl) (argsL := []) (rest := []) (lenOf pd_ocZ rfl) rfl (by show 2 * 0 + _ ≤ _; exact Nat.le_of_eq rfl) (hb hby at_162)
      obtain ⟨rfl, e66, rfl⟩ := q66
      have N66 := Fr.app N65 (Fr.nil n0)
      refine Fin.go st66 ?_
      show Fin _ p e below s _ _ _ T66 (mkF m 165 #[.val (.int p0), .val (.int p1), .val (.int p2), .val (.int p3), .val (.ref aU), .val (.int (0 : Int32)), .val (.int (0 : Int32)), .val .null, .val (.ref a64), .unset, .unset] [(.int (0 : Int32))])
      refine Fin.go (fun _ k => XS.iload X66.here hx rfl (hb hby at_165) rfl k) ?_
      show Fin _ p e below s _ _ _ T66 (mkF m 167 #[.val (.int p0), .val (.int p1), .val (.int p2), .val (.int p3), .val (.ref aU), .val (.int (0 : Int32)), .val (.int (0 : Int32)), .val .null, .val (.ref a64), .unset, .unset] [(.int (0 : Int32)), (.int (0 : Int32))])
      refine Fin.go (fun _ k => XS.icmpNo X66.here hx rfl (hb hby at_167) rfl (XT.ii_ne_f (by decide)) k) ?_
      show Fin _ p e below s _ _ _ T66 (mkF m 170 #[.val (.int p0), .val (.int p1), .val (.int p2), .val (.int p3), .val (.ref aU), .val (.int (0 : Int32)), .val (.int (0 : Int32)), .val .null, .val (.ref a64), .unset, .unset] [])
      refine Fin.go (fun _ k => XS.iconst X66.here hx rfl (hb hby at_170) k) ?_
      show Fin _ p e below s _ _ _ T66 (mkF m 171 #[.val (.int p0), .val (.int p1), .val (.int p2), .val (.int p3), .val (.ref aU), .val (.int (0 : Int32)), .val (.int (0 : Int32)), .val .null, .val (.ref a64), .unset, .unset] [(.int (1 : Int32))])
      refine Fin.go (fun _ k => XS.goto X66.here hx rfl (pc0 := 171) (pc' := 175) rfl (hb hby at_171) (by decide) (by decide) k) ?_
      show Fin _ p e below s _ _ _ T66 (mkF m 175 #[.val (.int p0), .val (.int p1), .val (.int p2), .val (.int p3), .val (.ref aU), .val (.int (0 : Int32)), .val (.int (0 : Int32)), .val .null, .val (.ref a64), .unset, .unset] [(.int (1 : Int32))])
      refine Fin.go (fun _ k => XS.istore X66.here hx rfl (hb hby at_175) rfl (l' := #[.val (.int p0), .val (.int p1), .val (.int p2), .val (.int p3), .val (.ref aU), .val (.int (0 : Int32)), .val (.int (0 : Int32)), .val .null, .val (.ref a64), .val (.int (1 : Int32)), .unset]) rfl k) ?_
      show Fin _ p e below s _ _ _ T66 (mkF m 177 #[.val (.int p0), .val (.int p1), .val (.int p2), .val (.int p3), .val (.ref aU), .val (.int (0 : Int32)), .val (.int (0 : Int32)), .val .null, .val (.ref a64), .val (.int (1 : Int32)), .unset] [])
      refine Fin.go (fun _ k => XS.aload X66.here hx rfl (hb hby at_177) rfl rfl k) ?_
      show Fin _ p e below s _ _ _ T66 (mkF m 179 #[.val (.int p0), .val (.int p1), .val (.int p2), .val (.int p3), .val (.ref aU), .val (.int (0 : Int32)), .val (.int (0 : Int32)), .val .null, .val (.ref a64), .val (.int (1 : Int32)), .unset] [(.ref aU)])
      obtain ⟨v67, T67, L67, X67, hS67, hZ67, hown67, RC67, q67, st67⟩ := callStH X66 hx hZ65 (y := (⟨"com/example/grantwell/grantwell/catalog/Action", "onTable", "(Lcom/example/grantwell/grantwell/catalog/Privilege;)Lcom/example/grantwell/grantwell/catalog/Action;"⟩ : MethodName)) hown65 (hw _ w_67) (hw _ w_68) (hw _ w_36) (hw _ w_69) (by decide) (W := 0) (rmOT l Z a0 hw n0 T65.heap O65 aU) e66 hS65 (Nat.le_refl T65.heap.size) hEL RR65.1 (by decide) (by decide) (by decide) (by decide) (g := (mkF m 179 #[.val (.int p0), .val (.int p1), .val (.int p2), .val (.int p3), .val (.ref aU), .val (.int (0 : Int32)), .val (.int (0 : Int32)), .val .null, .val (.ref a64), .val (.int (1 : Int32)), .unset] [(.ref aU)])) rfl (by rw [hml]; rfl) (argsL := [(.ref aU)]) (rest := []) (lenOf pd_oLcom_example_grantwell_grantwell_catalog_Privilege_cLcom_example_grantwell_grantwell_catalog_Action_ rfl) rfl (by show 2 * 0 + _ ≤ _; exact Nat.le_of_eq rfl) (hb hby at_179)
      obtain ⟨o67, rfl, Nq67, Kq67, A67, F67⟩ := q67
      have N67 := Fr.app N66 Nq67
      have O67 := O65.keep Kq67 all0
      have RR67 := RR65.trans RC67
      refine Fin.go st67 ?_
      show Fin _ p e below s _ _ _ T67 (mkF m 182 #[.val (.int p0), .val (.int p1), .val (.int p2), .val (.int p3), .val (.ref aU), .val (.int (0 : Int32)), .val (.int (0 : Int32)), .val .null, .val (.ref a64), .val (.int (1 : Int32)), .unset] [(.ref o67)])
      refine Fin.go (fun _ k => XS.astore X67.here hx rfl (hb hby at_182) rfl rfl (l' := #[.val (.int p0), .val (.int p1), .val (.int p2), .val (.int p3), .val (.ref aU), .val (.int (0 : Int32)), .val (.int (0 : Int32)), .val .null, .val (.ref a64), .val (.int (1 : Int32)), .val (.ref o67)]) rfl k) ?_
      show Fin _ p e below s _ _ _ T67 (mkF m 184 #[.val (.int p0), .val (.int p1), .val (.int p2), .val (.int p3), .val (.ref aU), .val (.int (0 : Int32)), .val (.int (0 : Int32)), .val .null, .val (.ref a64), .val (.int (1 : Int32)), .val (.ref o67)] [])
      refine Fin.go (fun _ k => XS.iload X67.here hx rfl (hb hby at_184) rfl k) ?_
      show Fin _ p e below s _ _ _ T67 (mkF m 186 #[.val (.int p0), .val (.int p1), .val (.int p2), .val (.int p3), .val (.ref aU), .val (.int (0 : Int32)), .val (.int (0 : Int32)), .val .null, .val (.ref a64), .val (.int (1 : Int32)), .val (.ref o67)] [(.int (1 : Int32))])
      refine Fin.go (fun _ k => XS.ifNo X67.here hx rfl (hb hby at_186) rfl (XT.i0_eq_f (by decide)) k) ?_
      show Fin _ p e below s _ _ _ T67 (mkF m 189 #[.val (.int p0), .val (.int p1), .val (.int p2), .val (.int p3), .val (.ref aU), .val (.int (0 : Int32)), .val (.int (0 : Int32)), .val .null, .val (.ref a64), .val (.int (1 : Int32)), .val (.ref o67)] [])
      refine Fin.go (fun _ k => XS.aload X67.here hx rfl (hb hby at_189) rfl rfl k) ?_
      show Fin _ p e below s _ _ _ T67 (mkF m 191 #[.val (.int p0), .val (.int p1), .val (.int p2), .val (.int p3), .val (.ref aU), .val (.int (0 : Int32)), .val (.int (0 : Int32)), .val .null, .val (.ref a64), .val (.int (1 : Int32)), .val (.ref o67)] [(.ref o67)])
      obtain ⟨v68, T68, L68, X68, q68, st68⟩ := callVt X67 hx hZ67 (y := (⟨"com/example/grantwell/grantwell/catalog/Action", "isOnColumn", "()Z"⟩ : MethodName)) hown67 (hw _ w_62) (hw _ w_63) (hw _ w_65) (hw _ w_64) (hw _ w_36) (hw _ w_66) (by decide) (W := 0) (rmColN l Z a0 hw n0 T67.heap O67 o67 0 F67) (rfl : T67.heap = T67.heap) A67 (by decide) (by decide) (by decide) (by decide) (g := (mkF m 191 #[.val (.int p0), .val (.int p1), .val (.int p2), .val (.int p3), .val (.ref aU), .val (.int (0 : Int32)), .val (.int (0 : Int32)), .val .null, .val (.ref a64), .val (.int (1 : Int32)), .val (.ref o67)] [(.ref o67)])) rfl (by rw [hml]; rfl) (argsL := []) (rest := []) (lenOf pd_ocZ rfl) rfl (by show 2 * 0 + _ ≤ _; exact Nat.le_of_eq rfl) (hb hby at_191)
      obtain ⟨rfl, e68, rfl⟩ := q68
      have N68 := Fr.app N67 (Fr.nil n0)
      refine Fin.go st68 ?_
      show Fin _ p e below s _ _ _ T68 (mkF m 194 #[.val (.int p0), .val (.int p1), .val (.int p2), .val (.int p3), .val (.ref aU), .val (.int (0 : Int32)), .val (.int (0 : Int32)), .val .null, .val (.ref a64), .val (.int (1 : Int32)), .val (.ref o67)] [(.int (0 : Int32))])
      refine Fin.go (fun _ k => XS.ifNo X68.here hx rfl (hb hby at_194) rfl (XT.i0_ne_f (by decide)) k) ?_
      show Fin _ p e below s _ _ _ T68 (mkF m 197 #[.val (.int p0), .val (.int p1), .val (.int p2), .val (.int p3), .val (.ref aU), .val (.int (0 : Int32)), .val (.int (0 : Int32)), .val .null, .val (.ref a64), .val (.int (1 : Int32)), .val (.ref o67)] [])
      refine Fin.go (fun _ k => XS.iconst X68.here hx rfl (hb hby at_197) k) ?_
      show Fin _ p e below s _ _ _ T68 (mkF m 198 #[.val (.int p0), .val (.int p1), .val (.int p2), .val (.int p3), .val (.ref aU), .val (.int (0 : Int32)), .val (.int (0 : Int32)), .val .null, .val (.ref a64), .val (.int (1 : Int32)), .val (.ref o67)] [(.int (1 : Int32))])
      refine Fin.go (fun _ k => XS.goto X68.here hx rfl (pc0 := 198) (pc' := 202) rfl (hb hby at_198) (by decide) (by decide) k) ?_
      show Fin _ p e below s _ _ _ T68 (mkF m 202 #[.val (.int p0), .val (.int p1), .val (.int p2), .val (.int p3), .val (.ref aU), .val (.int (0 : Int32)), .val (.int (0 : Int32)), .val .null, .val (.ref a64), .val (.int (1 : Int32)), .val (.ref o67)] [(.int (1 : Int32))])
      exact Fin.leaveH X68 hS67 (Nat.le_refl T67.heap.size) hZ67 hEL e68 RR67 hlk (v := some (.int (nar .boolean (1 : Int32)))) (fun h => by rw [hret] at h; cases h) (by decide) (by decide) ⟨rfl, N68⟩ (fun fs hr => retN X68 hx (t := .boolean) hret (by simp) (hb hby at_202) hr)
set_option maxRecDepth 65536 in
set_option maxHeartbeats 40000000 in
theorem comes_1 {Post : Tables → Env → Array Value → State → Outcome → State → Prop} (hpost : ∀ tb e args s v u, (limb_1_1.after args s (.returned v) u = true ∧ limb_1_2.after args s (.returned v) u = true ∧ True) → ReturnedEndW s (.returned v) u (Jvm.fieldLocs frame_1_writes args s ++ Jvm.arrayLocs frame_1_arrays args s ++ Jvm.staticLocs frame_1_statics s) 24 2176 → Post tb e args s (.returned v) u) :
    ArmFor flags0 classFile x code maxLocals ret World_1 tables_1 room_1 Calls_1 rest_1 Pre_1 Post := by
  intro l hfl _ _ p e ha hc hk s m args below hf hA hF happ hP
  obtain ⟨hcalls, hrest, hpre⟩ := hP
  obtain ⟨-, -, -, hnamed, -, -, -, hat⟩ := (Spec.applies_iff hf).mp happ
  obtain ⟨hg, hn⟩ := and_e (Cond.before_iff.mp (show (Jvm.Cond.and given_1 narrow_1).before args s = true from hpre))
  obtain ⟨hcnt, hg⟩ := and_e hg
  obtain ⟨u0, u1, u2, u3, rfl⟩ : ∃ u0 u1 u2 u3 : Value, args = #[u0, u1, u2, u3] := by
    have hs : args.size = 4 := by simpa [Cond.value, given_1] using hcnt
    obtain ⟨L⟩ := args
    match L, hs with
    | [u0, u1, u2, u3], _ => exact ⟨u0, u1, u2, u3, rfl⟩
  have hw := fun d (hd : d ∈ tables_1) => atoms_spec (ws := Jvm.Cond.code x code maxLocals ret :: tables_1) hat d (List.mem_cons_of_mem _ hd)
  have hfit : Fit s := fun {y c} hc i hi => by
    obtain ⟨ha, rfl⟩ := Array.getElem?_eq_some_iff.mp hc
    have q := List.all_eq_true.mp ((Array.all_eq_true_iff_forall_mem.mp hF) _ (Array.getElem_mem ha)) i (List.mem_range.mpr hi)
    simpa [Array.getElem?_eq_getElem hi] using q
  obtain ⟨g0, hg⟩ := and_e hg
  obtain ⟨i0, ei0⟩ := is_v g0
  obtain rfl : u0 = (.int i0) := Option.some.inj ei0
  obtain ⟨g1, hg⟩ := and_e hg
  obtain ⟨i1, ei1⟩ := is_v g1
  obtain rfl : u1 = (.int i1) := Option.some.inj ei1
  obtain ⟨g2, hg⟩ := and_e hg
  obtain ⟨i2, ei2⟩ := is_v g2
  obtain rfl : u2 = (.int i2) := Option.some.inj ei2
  have g3 := hg
  obtain ⟨i3, ei3⟩ := is_v g3
  obtain rfl : u3 = (.int i3) := Option.some.inj ei3
  have hsets := fun (i : Nat) {w : Jvm.Cond} (h : jdkStatics_1[i]? = some w) => (atoms_of _ (rest_1_c_eq ▸ (show rest_1_c.before _ s = true from hrest))).1 w (List.mem_of_getElem? h)
  have x_aS := (and_e hn).1
  obtain ⟨aS, ev_aS⟩ := exa_v x_aS
  have A_aS := Exa.start ev_aS x_aS
  have S_aS := Sta.start ev_aS (Or.inr ⟨(hw _ w_6), (hw _ w_7)⟩)
  have x_aD := (and_e (and_e hn).2).1
  obtain ⟨aD, ev_aD⟩ := exa_v x_aD
  have A_aD := Exa.start ev_aD x_aD
  have S_aD := Sta.start ev_aD (Or.inr ⟨(hw _ w_6), (hw _ w_9)⟩)
  have x_aU := (and_e (and_e (and_e (and_e (and_e hn).2).2).2).2).1
  obtain ⟨aU, ev_aU⟩ := exa_v x_aU
  have A_aU := Exa.start ev_aU x_aU
  have S_aU := Sta.start ev_aU (Or.inr ⟨(hw _ w_6), (hw _ w_11)⟩)
  have x_aI := (and_e (and_e (and_e (and_e (and_e (and_e (and_e (and_e hn).2).2).2).2).2).2).2).1
  obtain ⟨aI, ev_aI⟩ := exa_v x_aI
  have A_aI := Exa.start ev_aI x_aI
  have S_aI := Sta.start ev_aI (Or.inr ⟨(hw _ w_6), (hw _ w_73)⟩)
  have x_aR := (and_e (and_e (and_e (and_e (and_e (and_e (and_e (and_e (and_e (and_e (and_e hn).2).2).2).2).2).2).2).2).2).2).1
  obtain ⟨aR, ev_aR⟩ := exa_v x_aR
  have A_aR := Exa.start ev_aR x_aR
  have S_aR := Sta.start ev_aR (Or.inr ⟨(hw _ w_6), (hw _ w_75)⟩)
  have x_aT := (and_e (and_e (and_e (and_e (and_e (and_e (and_e (and_e (and_e (and_e (and_e (and_e (and_e (and_e hn).2).2).2).2).2).2).2).2).2).2).2).2).2).1
  obtain ⟨aT, ev_aT⟩ := exa_v x_aT
  have A_aT := Exa.start ev_aT x_aT
  have S_aT := Sta.start ev_aT (Or.inr ⟨(hw _ w_6), (hw _ w_88)⟩)
  have F_aS_ordinal := fldOf ev_aS ((and_e (and_e (and_e hn).2).2).1)
  have F_aD_ordinal := fldOf ev_aD ((and_e (and_e (and_e (and_e hn).2).2).2).1)
  have F_aU_ordinal := fldOf ev_aU ((and_e (and_e (and_e (and_e (and_e (and_e hn).2).2).2).2).2).1)
  have F_aS_onColumns := fldOf ev_aS ((and_e (and_e (and_e (and_e (and_e (and_e (and_e hn).2).2).2).2).2).2).1)
  have F_aI_ordinal := fldOf ev_aI ((and_e (and_e (and_e (and_e (and_e (and_e (and_e (and_e (and_e hn).2).2).2).2).2).2).2).2).1)
  have F_aI_onColumns := fldOf ev_aI ((and_e (and_e (and_e (and_e (and_e (and_e (and_e (and_e (and_e (and_e hn).2).2).2).2).2).2).2).2).2).1)
  have F_aR_ordinal := fldOf ev_aR ((and_e (and_e (and_e (and_e (and_e (and_e (and_e (and_e (and_e (and_e (and_e (and_e hn).2).2).2).2).2).2).2).2).2).2).2).1)
  have F_aR_onColumns := fldOf ev_aR ((and_e (and_e (and_e (and_e (and_e (and_e (and_e (and_e (and_e (and_e (and_e (and_e (and_e hn).2).2).2).2).2).2).2).2).2).2).2).2).1)
  have F_aT_ordinal := fldOf ev_aT ((and_e (and_e (and_e (and_e (and_e (and_e (and_e (and_e (and_e (and_e (and_e (and_e (and_e (and_e (and_e hn).2).2).2).2).2).2).2).2).2).2).2).2).2).2).1)
  have F_aT_onColumns := fldOf ev_aT ((and_e (and_e (and_e (and_e (and_e (and_e (and_e (and_e (and_e (and_e (and_e (and_e (and_e (and_e (and_e (and_e hn).2).2).2).2).2).2).2).2).2).2).2).2).2).2).2).1)
  have F_aD_onColumns := fldOf ev_aD ((and_e (and_e (and_e (and_e (and_e (and_e (and_e (and_e (and_e (and_e (and_e (and_e (and_e (and_e (and_e (and_e (and_e hn).2).2).2).2).2).2).2).2).2).2).2).2).2).2).2).2).1)
  have F_aU_onColumns := fldOf ev_aU ((and_e (and_e (and_e (and_e (and_e (and_e (and_e (and_e (and_e (and_e (and_e (and_e (and_e (and_e (and_e (and_e (and_e hn).2).2).2).2).2).2).2).2).2).2).2).2).2).2).2).2).2)
  have hci := Cond.before_iff.mp (hsets 1 rfl)
  obtain ⟨cs, ecs⟩ := is_v hci
  have S_cs := Sta.start ecs (Or.inl (hsets 0 rfl))
  have hcs : ¬ cs = 0 := gotF (Cond.eq_ints ecs (Term.int_eval 0)) (not_v (Cond.before_iff.mp (hsets 2 rfl)))
  have hheld : ∀ p ∈ EL, Jvm.Lit.constHeld s p.1 p.2 := fun p hp => hcalls.1 p ((by decide : ∀ p ∈ EL, p ∈ consts_1) p hp)
  have hCH : CHv s EL s.vm s.heap := CHv.start (elW hw) hheld (hsets 2 rfl) (hw _ w_27) (hw _ w_13)
  obtain ⟨n, o, h1, h2, h3, _, L, rfl, ⟨rfl, N⟩, -, hq⟩ := law l s _ hw s.heap.size s.heap (Old.start s) i0 i1 i2 i3 cs S_cs hcs aS aI aT aD aR aU S_aS S_aI S_aT S_aD S_aR S_aU A_aS F_aS_onColumns A_aI F_aI_onColumns A_aT F_aT_onColumns A_aR F_aR_onColumns (F_aS_ordinal.ne F_aD_ordinal (by decide)) (F_aS_ordinal.ne F_aU_ordinal (by decide)) (F_aI_ordinal.ne F_aD_ordinal (by decide)) (F_aI_ordinal.ne F_aU_ordinal (by decide)) (F_aT_ordinal.ne F_aD_ordinal (by decide)) (F_aT_ordinal.ne F_aU_ordinal (by decide)) (F_aR_ordinal.ne F_aD_ordinal (by decide)) (F_aR_ordinal.ne F_aU_ordinal (by decide)) (F_aU_ordinal.ne F_aD_ordinal (by decide)) p e ha hc hk s m _ below hf ((Spec.applies_iff_loose hf).mp happ).1 ⟨rfl, State.Warmed39.refl s, rfl, hCH⟩ trivial
  refine ⟨n, _, h1, h2, h3, hpost _ _ _ _ _ _ ⟨Cond.after_iff.mpr rfl, Cond.after_iff.mpr (eq_i res_at (Term.int_eval (1)) rfl), trivial⟩ ⟨hq.1, hq.2.1, hq.2.2.1, (hq.2.2.2.sift fun y hy => Or.inr (N y hy)).mono (by decide) (by decide)⟩⟩
theorem main_1_1 : Claimed_1_1 := comes_1 fun _ _ _ _ _ _ h hF => ⟨h.1, hF⟩
theorem main_1_2 : Claimed_1_2 := comes_1 fun _ _ _ _ _ _ h hF => ⟨h.2.1, hF⟩
end Jvm.Pilot.@@N@@
namespace Jvm.Pilot.@@N@@
open Jvm Jvm.ClassFile Sem Op Lib Jvm.Free Jvm.Stand Jvm.Pilot.@@N@@.Jvm.D
/-! MADE BY PROGRAM (witnessworld.py) out of the Statement's table words and the real class files: 24 classes; the members and pool entries that the words name. The judged class is class 1, her method 2. -/
namespace start1
open Jvm.ClassFile
def u (s : String) : CpInfo := .utf8 (stringToUtf16 s)
/-- a pool by its gaps: so many unusable entries, then the entry; so many at the end -/
def gap : Nat → List CpInfo → List CpInfo
  | 0, r => r
  | n + 1, r => .unusable :: gap n r
def poolList (es : List (Nat × CpInfo)) (last : Nat) : List CpInfo := es.foldr (fun e r => gap e.1 (e.2 :: r)) (gap last [])
def pool (es : List (Nat × CpInfo)) (last : Nat) : Array CpInfo := ⟨poolList es last⟩
def fileOf (pool : Array CpInfo) (this : Nat) (attrs : Array Attribute := #[]) (ms : Array MethodInfo := #[]) (fl : Nat := 33) (sup : Nat := 0) (ifs : Array Nat := #[]) (fds : Array FieldInfo := #[]) : ClassFile where
  minorVersion := 0
  majorVersion := 65
  constantPool := pool
  accessFlags := fl
  thisClass := this
  superClass := sup
  interfaces := ifs
  fields := fds
  methods := ms
  attributes := attrs
def plain (name : String) (sup : Option ClassId) : Class where
  name := name
  kind := .ordinary
  loader := none
  accessFlags := 33
  super := sup
  interfaces := #[]
  cf := none
  fields := #[]
  methods := #[]
  instanceTypes := #[]
  staticTypes := #[]
  resolved := #[]
  callSites := []
  init := .initialized
  statics := none
  mirror := none

def pool0 : Array CpInfo := pool [(5, u "<init>"), (0, u "()V"), (1, .class_ 10), (1, u "java/lang/Object")] 113

def k0c0 : Code := { maxStack := 0, maxLocals := 1, code := object_method_1_code, exceptionTable := #[], attributes := #[] }
def k0m0 : Method := { name := "<init>", desc := "()V", sig := { parameters := [], returnType := none }, accessFlags := 1, code := some k0c0 }
/-- java/lang/Object -/
def k0 : Class := { plain "java/lang/Object" none with
  accessFlags := 33
  interfaces := #[]
  cf := some (fileOf pool0 8 #[] #[{ accessFlags := 1, nameIndex := 5, descriptorIndex := 6, attributes := #[] }] 33 0 #[] #[])
  fields := #[]
  methods := #[k0m0]
  instanceTypes := #[]
  staticTypes := #[]
  resolved := Array.replicate 124 none
  statics := none }

def pool1 : Array CpInfo := pool [(2, .class_ 4), (1, u "java/lang/Object"), (0, u "<init>"), (0, u "()V"), (0, .integer 2147483647), (0, .fieldref 9 10), (0, .class_ 11), (0, .nameAndType 12 13), (0, u "com/example/grantwell/grantwell/catalog/Privilege"), (0, u "SELECT"), (0, u "Lcom/example/grantwell/grantwell/catalog/Privilege;"), (0, .fieldref 9 15), (0, .nameAndType 16 13), (0, u "INSERT"), (0, .fieldref 9 18), (0, .nameAndType 19 13), (0, u "UPDATE"), (0, .fieldref 9 21), (0, .nameAndType 22 13), (0, u "DELETE"), (0, .fieldref 9 24), (0, .nameAndType 25 13), (0, u "REFERENCES"), (0, .fieldref 9 27), (0, .nameAndType 28 13), (0, u "USAGE"), (0, .methodref 30 31), (0, .class_ 32), (0, .nameAndType 33 34), (0, u "com/example/grantwell/grantwell/catalog/ActionIsOnColumnPinLaw"), (0, u "pick"), (0, u "(I)Lcom/example/grantwell/grantwell/catalog/Privilege;"), (0, .class_ 36), (0, u "java/lang/String"), (0, .methodref 35 38), (0, .nameAndType 5 39), (0, u "([C)V"), (0, .class_ 41), (0, u "com/example/grantwell/grantwell/catalog/Action"), (0, .methodref 40 43), (0, .nameAndType 5 44), (0, u "(Lcom/example/grantwell/grantwell/catalog/Privilege;Ljava/lang/String;)V"), (0, .methodref 40 46), (0, .nameAndType 47 48), (0, u "isOnColumn"), (0, u "()Z"), (0, .methodref 40 50), (0, .nameAndType 51 52), (0, u "onTable"), (0, u "(Lcom/example/grantwell/grantwell/catalog/Privilege;)Lcom/example/grantwell/grantwell/catalog/Action;"), (3, u "law"), (0, u "(IIII)Z")] 2

def k1m0 : Method := { name := "<init>", desc := "()V", sig := { parameters := [], returnType := none }, accessFlags := 1, code := none }
def k1c1 : Code := { maxStack := 2, maxLocals := 2, code := method_2_code, exceptionTable := #[], attributes := #[] }
def k1m1 : Method := { name := "pick", desc := "(I)Lcom/example/grantwell/grantwell/catalog/Privilege;", sig := { parameters := [.int], returnType := some (.object "com/example/grantwell/grantwell/catalog/Privilege") }, accessFlags := 10, code := some k1c1 }
def k1c2 : Code := { maxStack := 4, maxLocals := 11, code := code, exceptionTable := #[], attributes := #[] }
def k1m2 : Method := { name := "law", desc := "(IIII)Z", sig := { parameters := [.int, .int, .int, .int], returnType := some .boolean }, accessFlags := 9, code := some k1c2 }
/-- com/example/grantwell/grantwell/catalog/ActionIsOnColumnPinLaw -/
def k1 : Class := { plain "com/example/grantwell/grantwell/catalog/ActionIsOnColumnPinLaw" (some 0) with
  accessFlags := 49
  interfaces := #[]
  cf := some (fileOf pool1 30 #[] #[{ accessFlags := 1, nameIndex := 5, descriptorIndex := 6, attributes := #[] }, { accessFlags := 10, nameIndex := 33, descriptorIndex := 34, attributes := #[] }, { accessFlags := 9, nameIndex := 56, descriptorIndex := 57, attributes := #[] }] 49 2 #[] #[])
  fields := #[]
  methods := #[k1m0, k1m1, k1m2]
  instanceTypes := #[]
  staticTypes := #[]
  resolved := Array.replicate 60 none
  statics := none }

def pool2 : Array CpInfo := pool [(1, .class_ 2), (0, u "java/lang/constant/Constable"), (0, .class_ 4), (0, u "java/lang/Object")] 6

/-- java/lang/constant/Constable -/
def k2 : Class := { plain "java/lang/constant/Constable" (some 0) with
  accessFlags := 1537
  interfaces := #[]
  cf := some (fileOf pool2 1 #[] #[] 1537 3 #[] #[])
  fields := #[]
  methods := #[]
  instanceTypes := #[]
  staticTypes := #[]
  resolved := Array.replicate 11 none
  statics := none }

def pool3 : Array CpInfo := pool [(1, .class_ 2), (0, u "java/lang/Comparable"), (0, .class_ 4), (0, u "java/lang/Object")] 7

/-- java/lang/Comparable -/
def k3 : Class := { plain "java/lang/Comparable" (some 0) with
  accessFlags := 1537
  interfaces := #[]
  cf := some (fileOf pool3 1 #[] #[] 1537 3 #[] #[])
  fields := #[]
  methods := #[]
  instanceTypes := #[]
  staticTypes := #[]
  resolved := Array.replicate 12 none
  statics := none }

def pool4 : Array CpInfo := pool [(1, .class_ 2), (0, u "java/io/Serializable"), (0, .class_ 4), (0, u "java/lang/Object")] 2

/-- java/io/Serializable -/
def k4 : Class := { plain "java/io/Serializable" (some 0) with
  accessFlags := 1537
  interfaces := #[]
  cf := some (fileOf pool4 1 #[] #[] 1537 3 #[] #[])
  fields := #[]
  methods := #[]
  instanceTypes := #[]
  staticTypes := #[]
  resolved := Array.replicate 7 none
  statics := none }

def pool5 : Array CpInfo := pool [(2, .class_ 4), (1, u "java/lang/Enum"), (0, u "name"), (0, u "Ljava/lang/String;"), (2, u "ordinal"), (0, u "I"), (1, .class_ 14), (1, u "java/lang/Object"), (4, u "hash"), (86, .class_ 108), (1, u "java/lang/Enum$EnumDesc"), (2, .class_ 112), (0, u "java/lang/constant/Constable"), (0, .class_ 114), (0, u "java/lang/Comparable"), (0, .class_ 116), (0, u "java/io/Serializable")] 87

/-- java/lang/Enum -/
def k5 : Class := { plain "java/lang/Enum" (some 0) with
  accessFlags := 1057
  interfaces := #[2, 3, 4]
  cf := some (fileOf pool5 2 #[.nestMembers #[106]] #[] 1057 12 #[111, 113, 115] #[{ accessFlags := 18, nameIndex := 5, descriptorIndex := 6, attributes := #[] }, { accessFlags := 18, nameIndex := 9, descriptorIndex := 10, attributes := #[] }, { accessFlags := 2, nameIndex := 19, descriptorIndex := 10, attributes := #[] }])
  fields := #[{ name := "name", type := (.object "java/lang/String"), accessFlags := 18, slot := 0, constantValue := 0 }, { name := "ordinal", type := .int, accessFlags := 18, slot := 1, constantValue := 0 }, { name := "hash", type := .int, accessFlags := 2, slot := 2, constantValue := 0 }]
  methods := #[]
  instanceTypes := #[(.object "java/lang/String"), .int, .int]
  staticTypes := #[]
  resolved := Array.replicate 204 none
  statics := none }

def pool6 : Array CpInfo := pool [(1, .class_ 2), (0, u "com/example/grantwell/grantwell/catalog/Privilege"), (2, u "SELECT"), (0, u "Lcom/example/grantwell/grantwell/catalog/Privilege;"), (2, u "INSERT"), (2, u "UPDATE"), (2, u "DELETE"), (2, u "REFERENCES"), (2, u "USAGE"), (2, u "$VALUES"), (0, u "[Lcom/example/grantwell/grantwell/catalog/Privilege;"), (6, .class_ 34), (1, u "java/lang/Enum"), (6, .fieldref 1 42), (0, .nameAndType 43 44), (0, u "onColumns"), (0, u "Z"), (20, u "isOnColumns"), (0, u "()Z")] 5

def k6c0 : Code := { maxStack := 1, maxLocals := 1, code := prog_49_method_4_code, exceptionTable := #[], attributes := #[] }
def k6m0 : Method := { name := "isOnColumns", desc := "()Z", sig := { parameters := [], returnType := some .boolean }, accessFlags := 1, code := some k6c0 }
/-- com/example/grantwell/grantwell/catalog/Privilege -/
def k6 : Class := { plain "com/example/grantwell/grantwell/catalog/Privilege" (some 5) with
  accessFlags := 16433
  interfaces := #[]
  cf := some (fileOf pool6 1 #[] #[{ accessFlags := 1, nameIndex := 65, descriptorIndex := 66, attributes := #[] }] 16433 32 #[] #[{ accessFlags := 16409, nameIndex := 5, descriptorIndex := 6, attributes := #[] }, { accessFlags := 16409, nameIndex := 9, descriptorIndex := 6, attributes := #[] }, { accessFlags := 16409, nameIndex := 12, descriptorIndex := 6, attributes := #[] }, { accessFlags := 16409, nameIndex := 15, descriptorIndex := 6, attributes := #[] }, { accessFlags := 16409, nameIndex := 18, descriptorIndex := 6, attributes := #[] }, { accessFlags := 16409, nameIndex := 21, descriptorIndex := 6, attributes := #[] }, { accessFlags := 18, nameIndex := 43, descriptorIndex := 44, attributes := #[] }, { accessFlags := 4122, nameIndex := 24, descriptorIndex := 25, attributes := #[] }])
  fields := #[{ name := "SELECT", type := (.object "com/example/grantwell/grantwell/catalog/Privilege"), accessFlags := 16409, slot := 0, constantValue := 0 }, { name := "INSERT", type := (.object "com/example/grantwell/grantwell/catalog/Privilege"), accessFlags := 16409, slot := 1, constantValue := 0 }, { name := "UPDATE", type := (.object "com/example/grantwell/grantwell/catalog/Privilege"), accessFlags := 16409, slot := 2, constantValue := 0 }, { name := "DELETE", type := (.object "com/example/grantwell/grantwell/catalog/Privilege"), accessFlags := 16409, slot := 3, constantValue := 0 }, { name := "REFERENCES", type := (.object "com/example/grantwell/grantwell/catalog/Privilege"), accessFlags := 16409, slot := 4, constantValue := 0 }, { name := "USAGE", type := (.object "com/example/grantwell/grantwell/catalog/Privilege"), accessFlags := 16409, slot := 5, constantValue := 0 }, { name := "onColumns", type := .boolean, accessFlags := 18, slot := 3, constantValue := 0 }, { name := "$VALUES", type := (.array (.object "com/example/grantwell/grantwell/catalog/Privilege")), accessFlags := 4122, slot := 6, constantValue := 0 }]
  methods := #[k6m0]
  instanceTypes := #[(.object "java/lang/String"), .int, .int, .boolean]
  staticTypes := #[(.object "com/example/grantwell/grantwell/catalog/Privilege"), (.object "com/example/grantwell/grantwell/catalog/Privilege"), (.object "com/example/grantwell/grantwell/catalog/Privilege"), (.object "com/example/grantwell/grantwell/catalog/Privilege"), (.object "com/example/grantwell/grantwell/catalog/Privilege"), (.object "com/example/grantwell/grantwell/catalog/Privilege"), (.array (.object "com/example/grantwell/grantwell/catalog/Privilege"))]
  resolved := Array.replicate 72 none
  statics := some 0 }

def pool7 : Array CpInfo := pool [(2, .class_ 4), (1, u "java/lang/CharSequence"), (42, .class_ 48), (0, u "java/lang/CharSequence$1CodePointIterator"), (10, .class_ 60), (0, u "java/lang/CharSequence$1CharIterator"), (5, .class_ 67), (0, u "java/lang/Object")] 63

/-- java/lang/CharSequence -/
def k7 : Class := { plain "java/lang/CharSequence" (some 0) with
  accessFlags := 1537
  interfaces := #[]
  cf := some (fileOf pool7 2 #[.nestMembers #[47, 59]] #[] 1537 66 #[] #[])
  fields := #[]
  methods := #[]
  instanceTypes := #[]
  staticTypes := #[]
  resolved := Array.replicate 131 none
  statics := none }

def pool8 : Array CpInfo := pool [(1, .class_ 2), (0, u "java/lang/constant/ConstantDesc"), (0, .class_ 4), (0, u "java/lang/Object")] 32

/-- java/lang/constant/ConstantDesc -/
def k8 : Class := { plain "java/lang/constant/ConstantDesc" (some 0) with
  accessFlags := 1537
  interfaces := #[]
  cf := some (fileOf pool8 1 #[] #[] 1537 3 #[] #[])
  fields := #[]
  methods := #[]
  instanceTypes := #[]
  staticTypes := #[]
  resolved := Array.replicate 37 none
  statics := none }

def pool9 : Array CpInfo := pool [(1, .methodref 2 3), (0, .class_ 4), (0, .nameAndType 5 6), (0, u "java/lang/Object"), (0, u "<init>"), (0, u "()V"), (0, .string 8), (0, u ""), (0, .fieldref 10 11), (0, .class_ 12), (0, .nameAndType 13 14), (0, u "java/lang/String"), (0, u "value"), (0, u "[B"), (0, .fieldref 10 16), (0, .nameAndType 17 18), (0, u "coder"), (0, u "B"), (2, u "hash"), (0, u "I"), (2, u "hashIsZero"), (0, u "Z"), (0, .methodref 10 28), (0, .nameAndType 5 29), (0, u "([CIILjava/lang/Void;)V"), (8, .fieldref 10 39), (0, .nameAndType 40 26), (0, u "COMPACT_STRINGS"), (1, .class_ 44), (1, u "java/lang/StringUTF16"), (0, u "compress"), (1, .methodref 42 48), (0, .nameAndType 49 50), (0, u "coderFromArrayLen"), (0, u "([BI)B"), (126, .methodref 42 178), (0, .nameAndType 45 179), (0, u "([CII)[B"), (395, .class_ 576), (0, u "java/lang/CharSequence"), (22, u "CASE_INSENSITIVE_ORDER"), (0, u "Ljava/util/Comparator;"), (409, u "([C)V"), (90, u "serialPersistentFields"), (0, u "[Ljava/io/ObjectStreamField;"), (0, .class_ 1104), (0, u "java/lang/String$CaseInsensitiveComparator"), (1, .class_ 1107), (0, u "java/io/Serializable"), (0, .class_ 1109), (0, u "java/lang/Comparable"), (0, .class_ 1111), (0, u "java/lang/constant/Constable"), (0, .class_ 1113), (0, u "java/lang/constant/ConstantDesc"), (2, u "serialVersionUID"), (0, u "J"), (3, u "REPL"), (0, u "C"), (2, u "LATIN1"), (1, u "UTF16")] 323

def k9m0 : Method := { name := "<init>", desc := "()V", sig := { parameters := [], returnType := none }, accessFlags := 1, code := none }
def k9c1 : Code := { maxStack := 5, maxLocals := 2, code := jdk_42_method_3_code, exceptionTable := #[], attributes := #[] }
def k9m1 : Method := { name := "<init>", desc := "([C)V", sig := { parameters := [(.array .char)], returnType := none }, accessFlags := 1, code := some k9c1 }
def k9c2 : Code := { maxStack := 4, maxLocals := 6, code := jdk_42_method_149_code, exceptionTable := #[], attributes := #[] }
def k9m2 : Method := { name := "<init>", desc := "([CIILjava/lang/Void;)V", sig := { parameters := [(.array .char), .int, .int, (.object "java/lang/Void")], returnType := none }, accessFlags := 2, code := some k9c2 }
/-- java/lang/String -/
def k9 : Class := { plain "java/lang/String" (some 0) with
  accessFlags := 49
  interfaces := #[4, 3, 7, 2, 8]
  cf := some (fileOf pool9 10 #[.nestMembers #[1103]] #[{ accessFlags := 1, nameIndex := 5, descriptorIndex := 6, attributes := #[] }, { accessFlags := 1, nameIndex := 5, descriptorIndex := 1010, attributes := #[] }, { accessFlags := 2, nameIndex := 5, descriptorIndex := 29, attributes := #[] }] 49 2 #[1106, 1108, 575, 1110, 1112] #[{ accessFlags := 18, nameIndex := 13, descriptorIndex := 14, attributes := #[] }, { accessFlags := 18, nameIndex := 17, descriptorIndex := 18, attributes := #[] }, { accessFlags := 2, nameIndex := 21, descriptorIndex := 22, attributes := #[] }, { accessFlags := 2, nameIndex := 25, descriptorIndex := 26, attributes := #[] }, { accessFlags := 26, nameIndex := 1116, descriptorIndex := 1117, attributes := #[] }, { accessFlags := 24, nameIndex := 40, descriptorIndex := 26, attributes := #[] }, { accessFlags := 26, nameIndex := 1101, descriptorIndex := 1102, attributes := #[] }, { accessFlags := 26, nameIndex := 1121, descriptorIndex := 1122, attributes := #[] }, { accessFlags := 25, nameIndex := 599, descriptorIndex := 600, attributes := #[] }, { accessFlags := 24, nameIndex := 1125, descriptorIndex := 18, attributes := #[] }, { accessFlags := 24, nameIndex := 1127, descriptorIndex := 18, attributes := #[] }])
  fields := #[{ name := "value", type := (.array .byte), accessFlags := 18, slot := 0, constantValue := 0 }, { name := "coder", type := .byte, accessFlags := 18, slot := 1, constantValue := 0 }, { name := "hash", type := .int, accessFlags := 2, slot := 2, constantValue := 0 }, { name := "hashIsZero", type := .boolean, accessFlags := 2, slot := 3, constantValue := 0 }, { name := "serialVersionUID", type := .long, accessFlags := 26, slot := 0, constantValue := 0 }, { name := "COMPACT_STRINGS", type := .boolean, accessFlags := 24, slot := 1, constantValue := 0 }, { name := "serialPersistentFields", type := (.array (.object "java/io/ObjectStreamField")), accessFlags := 26, slot := 2, constantValue := 0 }, { name := "REPL", type := .char, accessFlags := 26, slot := 3, constantValue := 0 }, { name := "CASE_INSENSITIVE_ORDER", type := (.object "java/util/Comparator"), accessFlags := 25, slot := 4, constantValue := 0 }, { name := "LATIN1", type := .byte, accessFlags := 24, slot := 5, constantValue := 0 }, { name := "UTF16", type := .byte, accessFlags := 24, slot := 6, constantValue := 0 }]
  methods := #[k9m0, k9m1, k9m2]
  instanceTypes := #[(.array .byte), .byte, .int, .boolean]
  staticTypes := #[.long, .boolean, (.array (.object "java/io/ObjectStreamField")), .char, (.object "java/util/Comparator"), .byte, .byte]
  resolved := Array.replicate 1451 none
  statics := some 1 }

def pool10 : Array CpInfo := pool [(1, .methodref 2 3), (0, .class_ 4), (0, .nameAndType 5 6), (0, u "java/lang/Object"), (0, u "<init>"), (0, u "()V"), (0, .class_ 8), (0, u "java/lang/Record")] 13

def k10c0 : Code := { maxStack := 1, maxLocals := 1, code := jdk_30_method_1_code, exceptionTable := #[], attributes := #[] }
def k10m0 : Method := { name := "<init>", desc := "()V", sig := { parameters := [], returnType := none }, accessFlags := 4, code := some k10c0 }
/-- java/lang/Record -/
def k10 : Class := { plain "java/lang/Record" (some 0) with
  accessFlags := 1057
  interfaces := #[]
  cf := some (fileOf pool10 7 #[] #[{ accessFlags := 4, nameIndex := 5, descriptorIndex := 6, attributes := #[] }] 1057 2 #[] #[])
  fields := #[]
  methods := #[k10m0]
  instanceTypes := #[]
  staticTypes := #[]
  resolved := Array.replicate 22 none
  statics := none }

def pool11 : Array CpInfo := pool [(1, .methodref 2 3), (0, .class_ 4), (0, .nameAndType 5 6), (0, u "java/lang/Record"), (0, u "<init>"), (0, u "()V"), (0, .string 8), (0, u "privilege"), (0, .methodref 10 11), (0, .class_ 12), (0, .nameAndType 13 14), (0, u "java/util/Objects"), (0, u "requireNonNull"), (0, u "(Ljava/lang/Object;Ljava/lang/String;)Ljava/lang/Object;"), (0, .methodref 16 17), (0, .class_ 18), (0, .nameAndType 19 20), (0, u "com/example/grantwell/grantwell/catalog/Privilege"), (0, u "isOnColumns"), (0, u "()Z"), (15, .fieldref 37 38), (0, .class_ 39), (0, .nameAndType 8 40), (0, u "com/example/grantwell/grantwell/catalog/Action"), (0, u "Lcom/example/grantwell/grantwell/catalog/Privilege;"), (0, .fieldref 37 42), (0, .nameAndType 43 44), (0, u "column"), (0, u "Ljava/lang/String;"), (0, .methodref 37 46), (0, .nameAndType 5 47), (0, u "(Lcom/example/grantwell/grantwell/catalog/Privilege;Ljava/lang/String;)V"), (16, u "onTable"), (0, u "(Lcom/example/grantwell/grantwell/catalog/Privilege;)Lcom/example/grantwell/grantwell/catalog/Action;"), (0, u "isOnColumn")] 33

def k11c0 : Code := { maxStack := 3, maxLocals := 3, code := prog_3_method_1_code, exceptionTable := #[], attributes := #[] }
def k11m0 : Method := { name := "<init>", desc := "(Lcom/example/grantwell/grantwell/catalog/Privilege;Ljava/lang/String;)V", sig := { parameters := [(.object "com/example/grantwell/grantwell/catalog/Privilege"), (.object "java/lang/String")], returnType := none }, accessFlags := 1, code := some k11c0 }
def k11c1 : Code := { maxStack := 4, maxLocals := 1, code := prog_3_method_2_code, exceptionTable := #[], attributes := #[] }
def k11m1 : Method := { name := "onTable", desc := "(Lcom/example/grantwell/grantwell/catalog/Privilege;)Lcom/example/grantwell/grantwell/catalog/Action;", sig := { parameters := [(.object "com/example/grantwell/grantwell/catalog/Privilege")], returnType := some (.object "com/example/grantwell/grantwell/catalog/Action") }, accessFlags := 9, code := some k11c1 }
def k11c2 : Code := { maxStack := 1, maxLocals := 1, code := prog_3_method_3_code, exceptionTable := #[], attributes := #[] }
def k11m2 : Method := { name := "isOnColumn", desc := "()Z", sig := { parameters := [], returnType := some .boolean }, accessFlags := 1, code := some k11c2 }
/-- com/example/grantwell/grantwell/catalog/Action -/
def k11 : Class := { plain "com/example/grantwell/grantwell/catalog/Action" (some 10) with
  accessFlags := 49
  interfaces := #[]
  cf := some (fileOf pool11 37 #[] #[{ accessFlags := 1, nameIndex := 5, descriptorIndex := 47, attributes := #[] }, { accessFlags := 9, nameIndex := 64, descriptorIndex := 65, attributes := #[] }, { accessFlags := 1, nameIndex := 66, descriptorIndex := 20, attributes := #[] }] 49 2 #[] #[{ accessFlags := 18, nameIndex := 8, descriptorIndex := 40, attributes := #[] }, { accessFlags := 18, nameIndex := 43, descriptorIndex := 44, attributes := #[] }])
  fields := #[{ name := "privilege", type := (.object "com/example/grantwell/grantwell/catalog/Privilege"), accessFlags := 18, slot := 0, constantValue := 0 }, { name := "column", type := (.object "java/lang/String"), accessFlags := 18, slot := 1, constantValue := 0 }]
  methods := #[k11m0, k11m1, k11m2]
  instanceTypes := #[(.object "com/example/grantwell/grantwell/catalog/Privilege"), (.object "java/lang/String")]
  staticTypes := #[]
  resolved := Array.replicate 100 none
  statics := none }

def pool12 : Array CpInfo := pool [(2, .class_ 4), (1, u "java/lang/Object"), (0, u "<init>"), (0, u "()V"), (35, .class_ 44), (1, u "java/util/Objects"), (0, u "requireNonNull"), (48, u "(Ljava/lang/Object;Ljava/lang/String;)Ljava/lang/Object;")] 89

def k12m0 : Method := { name := "<init>", desc := "()V", sig := { parameters := [], returnType := none }, accessFlags := 2, code := none }
def k12c1 : Code := { maxStack := 3, maxLocals := 2, code := jdk_31_method_11_code, exceptionTable := #[], attributes := #[] }
def k12m1 : Method := { name := "requireNonNull", desc := "(Ljava/lang/Object;Ljava/lang/String;)Ljava/lang/Object;", sig := { parameters := [(.object "java/lang/Object"), (.object "java/lang/String")], returnType := some (.object "java/lang/Object") }, accessFlags := 9, code := some k12c1 }
/-- java/util/Objects -/
def k12 : Class := { plain "java/util/Objects" (some 0) with
  accessFlags := 49
  interfaces := #[]
  cf := some (fileOf pool12 42 #[] #[{ accessFlags := 2, nameIndex := 5, descriptorIndex := 6, attributes := #[] }, { accessFlags := 9, nameIndex := 45, descriptorIndex := 94, attributes := #[] }] 49 2 #[] #[])
  fields := #[]
  methods := #[k12m0, k12m1]
  instanceTypes := #[]
  staticTypes := #[]
  resolved := Array.replicate 184 none
  statics := none }

def pool13 : Array CpInfo := pool [(6, .class_ 8), (1, u "java/lang/Object"), (0, u "<init>"), (0, u "()V"), (1, .class_ 14), (1, u "java/lang/StringUTF16"), (31, u "$assertionsDisabled"), (0, u "Z"), (13, u "HI_BYTE_SHIFT"), (0, u "I"), (2, u "LO_BYTE_SHIFT"), (49, .methodref 12 116), (0, .nameAndType 117 118), (0, u "compress"), (0, u "([CI[BII)I"), (3, u "([CII)[B"), (138, u "coderFromArrayLen"), (0, u "([BI)B"), (106, .class_ 371), (1, u "java/lang/StringUTF16$LinesSpliterator"), (58, u "MAX_LENGTH"), (196, .class_ 628), (0, u "java/lang/StringUTF16$CodePointsSpliterator"), (0, .class_ 630), (0, u "java/lang/StringUTF16$CharsSpliterator")] 4

def k13m0 : Method := { name := "<init>", desc := "()V", sig := { parameters := [], returnType := none }, accessFlags := 0, code := none }
def k13c1 : Code := { maxStack := 2, maxLocals := 2, code := jdk_52_method_15_code, exceptionTable := #[], attributes := #[] }
def k13m1 : Method := { name := "coderFromArrayLen", desc := "([BI)B", sig := { parameters := [(.array .byte), .int], returnType := some .byte }, accessFlags := 8, code := some k13c1 }
def k13c2 : Code := { maxStack := 5, maxLocals := 6, code := jdk_52_method_16_code, exceptionTable := #[], attributes := #[] }
def k13m2 : Method := { name := "compress", desc := "([CII)[B", sig := { parameters := [(.array .char), .int, .int], returnType := some (.array .byte) }, accessFlags := 9, code := some k13c2 }
def k13c3 : Code := { maxStack := 3, maxLocals := 7, code := jdk_52_method_21_code, exceptionTable := #[], attributes := #[] }
def k13m3 : Method := { name := "compress", desc := "([CI[BII)I", sig := { parameters := [(.array .char), .int, (.array .byte), .int, .int], returnType := some .int }, accessFlags := 9, code := some k13c3 }
/-- java/lang/StringUTF16 -/
def k13 : Class := { plain "java/lang/StringUTF16" (some 0) with
  accessFlags := 48
  interfaces := #[]
  cf := some (fileOf pool13 12 #[.nestMembers #[627, 629, 369]] #[{ accessFlags := 0, nameIndex := 9, descriptorIndex := 10, attributes := #[] }, { accessFlags := 8, nameIndex := 261, descriptorIndex := 262, attributes := #[] }, { accessFlags := 9, nameIndex := 117, descriptorIndex := 122, attributes := #[] }, { accessFlags := 9, nameIndex := 117, descriptorIndex := 118, attributes := #[] }] 48 6 #[] #[{ accessFlags := 26, nameIndex := 61, descriptorIndex := 62, attributes := #[] }, { accessFlags := 26, nameIndex := 65, descriptorIndex := 62, attributes := #[] }, { accessFlags := 24, nameIndex := 430, descriptorIndex := 62, attributes := #[] }, { accessFlags := 4120, nameIndex := 46, descriptorIndex := 47, attributes := #[] }])
  fields := #[{ name := "HI_BYTE_SHIFT", type := .int, accessFlags := 26, slot := 0, constantValue := 0 }, { name := "LO_BYTE_SHIFT", type := .int, accessFlags := 26, slot := 1, constantValue := 0 }, { name := "MAX_LENGTH", type := .int, accessFlags := 24, slot := 2, constantValue := 0 }, { name := "$assertionsDisabled", type := .boolean, accessFlags := 4120, slot := 3, constantValue := 0 }]
  methods := #[k13m0, k13m1, k13m2, k13m3]
  instanceTypes := #[]
  staticTypes := #[.int, .int, .int, .boolean]
  resolved := Array.replicate 635 none
  statics := none }

def pool14 : Array CpInfo := pool [(4, .class_ 6), (1, u "java/lang/Object"), (0, u "<init>"), (0, u "()V"), (5, .class_ 16), (1, u "java/lang/StringLatin1"), (104, u "$assertionsDisabled"), (0, u "Z"), (98, .class_ 223), (1, u "java/lang/StringLatin1$LinesSpliterator"), (166, .class_ 391), (0, u "java/lang/StringLatin1$CharsSpliterator")] 3

def k14m0 : Method := { name := "<init>", desc := "()V", sig := { parameters := [], returnType := none }, accessFlags := 0, code := none }
/-- java/lang/StringLatin1 -/
def k14 : Class := { plain "java/lang/StringLatin1" (some 0) with
  accessFlags := 48
  interfaces := #[]
  cf := some (fileOf pool14 14 #[.nestMembers #[390, 221]] #[{ accessFlags := 0, nameIndex := 7, descriptorIndex := 8, attributes := #[] }] 48 4 #[] #[{ accessFlags := 4120, nameIndex := 121, descriptorIndex := 122, attributes := #[] }])
  fields := #[{ name := "$assertionsDisabled", type := .boolean, accessFlags := 4120, slot := 0, constantValue := 0 }]
  methods := #[k14m0]
  instanceTypes := #[]
  staticTypes := #[.boolean]
  resolved := Array.replicate 395 none
  statics := none }

def pool15 : Array CpInfo := pool [(2, .class_ 4), (1, u "java/lang/Object"), (0, u "<init>"), (0, u "()V"), (17, .class_ 26), (1, u "jdk/internal/util/Preconditions"), (28, .class_ 56), (0, u "jdk/internal/util/Preconditions$4"), (57, .class_ 115), (0, u "jdk/internal/util/Preconditions$1"), (7, u "SIOOBE_FORMATTER"), (0, u "Ljava/util/function/BiFunction;"), (0, .class_ 126), (0, u "jdk/internal/util/Preconditions$2"), (3, u "AIOOBE_FORMATTER"), (0, .class_ 132), (0, u "jdk/internal/util/Preconditions$3"), (3, u "IOOBE_FORMATTER")] 57

def k15m0 : Method := { name := "<init>", desc := "()V", sig := { parameters := [], returnType := none }, accessFlags := 1, code := none }
/-- jdk/internal/util/Preconditions -/
def k15 : Class := { plain "jdk/internal/util/Preconditions" (some 0) with
  accessFlags := 33
  interfaces := #[]
  cf := some (fileOf pool15 24 #[.nestMembers #[55, 131, 125, 114]] #[{ accessFlags := 1, nameIndex := 5, descriptorIndex := 6, attributes := #[] }] 33 2 #[] #[{ accessFlags := 25, nameIndex := 123, descriptorIndex := 124, attributes := #[] }, { accessFlags := 25, nameIndex := 130, descriptorIndex := 124, attributes := #[] }, { accessFlags := 25, nameIndex := 136, descriptorIndex := 124, attributes := #[] }])
  fields := #[{ name := "SIOOBE_FORMATTER", type := (.object "java/util/function/BiFunction"), accessFlags := 25, slot := 0, constantValue := 0 }, { name := "AIOOBE_FORMATTER", type := (.object "java/util/function/BiFunction"), accessFlags := 25, slot := 1, constantValue := 0 }, { name := "IOOBE_FORMATTER", type := (.object "java/util/function/BiFunction"), accessFlags := 25, slot := 2, constantValue := 0 }]
  methods := #[k15m0]
  instanceTypes := #[]
  staticTypes := #[(.object "java/util/function/BiFunction"), (.object "java/util/function/BiFunction"), (.object "java/util/function/BiFunction")]
  resolved := Array.replicate 194 none
  statics := some 2 }

def pool16 : Array CpInfo := pool [(9, u "<init>"), (6, .class_ 18), (1, u "java/lang/Object"), (0, u "()V"), (1, .class_ 23), (1, u "jdk/internal/util/ArraysSupport"), (0, u "LOG2_ARRAY_LONG_INDEX_SCALE"), (0, u "I"), (2, u "U"), (0, u "Ljdk/internal/misc/Unsafe;"), (8, u "BIG_ENDIAN"), (0, u "Z"), (8, u "LOG2_BYTE_BIT_SIZE"), (4, u "LOG2_ARRAY_INT_INDEX_SCALE"), (54, u "JLA"), (0, u "Ljdk/internal/access/JavaLangAccess;"), (11, u "LOG2_ARRAY_BOOLEAN_INDEX_SCALE"), (9, u "LOG2_ARRAY_BYTE_INDEX_SCALE"), (5, u "LOG2_ARRAY_CHAR_INDEX_SCALE"), (5, u "LOG2_ARRAY_SHORT_INDEX_SCALE"), (18, u "LOG2_ARRAY_FLOAT_INDEX_SCALE"), (24, u "LOG2_ARRAY_DOUBLE_INDEX_SCALE"), (89, u "T_BOOLEAN"), (2, u "T_CHAR"), (1, u "T_FLOAT"), (1, u "T_DOUBLE"), (1, u "T_BYTE"), (1, u "T_SHORT"), (1, u "T_INT"), (1, u "T_LONG"), (1, u "SOFT_MAX_ARRAY_LENGTH")] 83

def k16m0 : Method := { name := "<init>", desc := "()V", sig := { parameters := [], returnType := none }, accessFlags := 2, code := none }
/-- jdk/internal/util/ArraysSupport -/
def k16 : Class := { plain "jdk/internal/util/ArraysSupport" (some 0) with
  accessFlags := 33
  interfaces := #[]
  cf := some (fileOf pool16 21 #[] #[{ accessFlags := 2, nameIndex := 9, descriptorIndex := 19, attributes := #[] }] 33 16 #[] #[{ accessFlags := 24, nameIndex := 28, descriptorIndex := 29, attributes := #[] }, { accessFlags := 26, nameIndex := 38, descriptorIndex := 39, attributes := #[] }, { accessFlags := 25, nameIndex := 121, descriptorIndex := 25, attributes := #[] }, { accessFlags := 25, nameIndex := 131, descriptorIndex := 25, attributes := #[] }, { accessFlags := 25, nameIndex := 137, descriptorIndex := 25, attributes := #[] }, { accessFlags := 25, nameIndex := 143, descriptorIndex := 25, attributes := #[] }, { accessFlags := 25, nameIndex := 53, descriptorIndex := 25, attributes := #[] }, { accessFlags := 25, nameIndex := 24, descriptorIndex := 25, attributes := #[] }, { accessFlags := 25, nameIndex := 162, descriptorIndex := 25, attributes := #[] }, { accessFlags := 25, nameIndex := 187, descriptorIndex := 25, attributes := #[] }, { accessFlags := 26, nameIndex := 48, descriptorIndex := 25, attributes := #[] }, { accessFlags := 25, nameIndex := 277, descriptorIndex := 25, attributes := #[] }, { accessFlags := 25, nameIndex := 280, descriptorIndex := 25, attributes := #[] }, { accessFlags := 25, nameIndex := 282, descriptorIndex := 25, attributes := #[] }, { accessFlags := 25, nameIndex := 284, descriptorIndex := 25, attributes := #[] }, { accessFlags := 25, nameIndex := 286, descriptorIndex := 25, attributes := #[] }, { accessFlags := 25, nameIndex := 288, descriptorIndex := 25, attributes := #[] }, { accessFlags := 25, nameIndex := 290, descriptorIndex := 25, attributes := #[] }, { accessFlags := 25, nameIndex := 292, descriptorIndex := 25, attributes := #[] }, { accessFlags := 26, nameIndex := 108, descriptorIndex := 109, attributes := #[] }, { accessFlags := 25, nameIndex := 294, descriptorIndex := 25, attributes := #[] }])
  fields := #[{ name := "U", type := (.object "jdk/internal/misc/Unsafe"), accessFlags := 24, slot := 0, constantValue := 0 }, { name := "BIG_ENDIAN", type := .boolean, accessFlags := 26, slot := 1, constantValue := 0 }, { name := "LOG2_ARRAY_BOOLEAN_INDEX_SCALE", type := .int, accessFlags := 25, slot := 2, constantValue := 0 }, { name := "LOG2_ARRAY_BYTE_INDEX_SCALE", type := .int, accessFlags := 25, slot := 3, constantValue := 0 }, { name := "LOG2_ARRAY_CHAR_INDEX_SCALE", type := .int, accessFlags := 25, slot := 4, constantValue := 0 }, { name := "LOG2_ARRAY_SHORT_INDEX_SCALE", type := .int, accessFlags := 25, slot := 5, constantValue := 0 }, { name := "LOG2_ARRAY_INT_INDEX_SCALE", type := .int, accessFlags := 25, slot := 6, constantValue := 0 }, { name := "LOG2_ARRAY_LONG_INDEX_SCALE", type := .int, accessFlags := 25, slot := 7, constantValue := 0 }, { name := "LOG2_ARRAY_FLOAT_INDEX_SCALE", type := .int, accessFlags := 25, slot := 8, constantValue := 0 }, { name := "LOG2_ARRAY_DOUBLE_INDEX_SCALE", type := .int, accessFlags := 25, slot := 9, constantValue := 0 }, { name := "LOG2_BYTE_BIT_SIZE", type := .int, accessFlags := 26, slot := 10, constantValue := 0 }, { name := "T_BOOLEAN", type := .int, accessFlags := 25, slot := 11, constantValue := 0 }, { name := "T_CHAR", type := .int, accessFlags := 25, slot := 12, constantValue := 0 }, { name := "T_FLOAT", type := .int, accessFlags := 25, slot := 13, constantValue := 0 }, { name := "T_DOUBLE", type := .int, accessFlags := 25, slot := 14, constantValue := 0 }, { name := "T_BYTE", type := .int, accessFlags := 25, slot := 15, constantValue := 0 }, { name := "T_SHORT", type := .int, accessFlags := 25, slot := 16, constantValue := 0 }, { name := "T_INT", type := .int, accessFlags := 25, slot := 17, constantValue := 0 }, { name := "T_LONG", type := .int, accessFlags := 25, slot := 18, constantValue := 0 }, { name := "JLA", type := (.object "jdk/internal/access/JavaLangAccess"), accessFlags := 26, slot := 19, constantValue := 0 }, { name := "SOFT_MAX_ARRAY_LENGTH", type := .int, accessFlags := 25, slot := 20, constantValue := 0 }]
  methods := #[k16m0]
  instanceTypes := #[]
  staticTypes := #[(.object "jdk/internal/misc/Unsafe"), .boolean, .int, .int, .int, .int, .int, .int, .int, .int, .int, .int, .int, .int, .int, .int, .int, .int, .int, (.object "jdk/internal/access/JavaLangAccess"), .int]
  resolved := Array.replicate 378 none
  statics := none }

def pool17 : Array CpInfo := pool [(1, u "java/lang/Cloneable"), (0, .class_ 1), (0, u "java/lang/Object"), (0, .class_ 3)] 3

/-- java/lang/Cloneable -/
def k17 : Class := { plain "java/lang/Cloneable" (some 0) with
  accessFlags := 1537
  interfaces := #[]
  cf := some (fileOf pool17 2 #[] #[] 1537 4 #[] #[])
  fields := #[]
  methods := #[]
  instanceTypes := #[]
  staticTypes := #[]
  resolved := Array.replicate 8 none
  statics := none }

/-- the primitive byte -/
def k18 : Class := { plain "byte" none with kind := .primitive 'B', accessFlags := 0x411 }
/-- [B -/
def k19 : Class := { plain "[B" (some 0) with kind := .array 18 .byte, interfaces := #[17, 4], accessFlags := 1041 }

/-- the primitive char -/
def k20 : Class := { plain "char" none with kind := .primitive 'C', accessFlags := 0x411 }
/-- [C -/
def k21 : Class := { plain "[C" (some 0) with kind := .array 20 .char, interfaces := #[17, 4], accessFlags := 1041 }

/-- the primitive int -/
def k22 : Class := { plain "int" none with kind := .primitive 'I', accessFlags := 0x411 }
/-- [I -/
def k23 : Class := { plain "[I" (some 0) with kind := .array 22 .int, interfaces := #[17, 4], accessFlags := 1041 }

def heap : Heap := #[{ cls := 6, slots := #[.ref 3, .ref 4, .ref 5, .ref 6, .ref 7, .ref 8, .null], vm := .statics 6 },
  { cls := 9, slots := #[.long 0, .int 1, .null, .int 0, .null, .int 0, .int 0], vm := .statics 9 },
  { cls := 15, slots := #[.null, .null, .null], vm := .statics 15 },
  { cls := 6, slots := #[.null, .int 0, .int 0, .int 1], vm := .none },
  { cls := 6, slots := #[.null, .int 1, .int 0, .int 1], vm := .none },
  { cls := 6, slots := #[.null, .int 2, .int 0, .int 1], vm := .none },
  { cls := 6, slots := #[.null, .int 3, .int 0, .int 0], vm := .none },
  { cls := 6, slots := #[.null, .int 4, .int 0, .int 1], vm := .none },
  { cls := 6, slots := #[.null, .int 5, .int 0, .int 0], vm := .none }]
def classes : Array Class := #[k0, k1, k2, k3, k4, k5, k6, k7, k8, k9, k10, k11, k12, k13, k14, k15, k16, k17, k18, k19, k20, k21, k22, k23]
def interned : List (Array UInt16 × Addr) := []
def slotsUsed : Nat := 41
def theMethod : MethodId := ⟨1, 2⟩
def args0 : Array Value := #[.int 0, .int 0, .int 65, .int 66]
def aboutOver (below : List Frame) : State where
  vm := { classes := classes, interned := interned.toArray }
  heap := heap
  slotsUsed := slotsUsed
  threads := #[{ frames := .invoking theMethod args0 :: below }]
def below0 : List Frame := [.native { method := ⟨0, 0⟩, args := #[] }]
def about1 : State := aboutOver below0
def p0 : Program := .bare "" "" ""
def e0 : Env := launch0.env 0 0 0
theorem w_frames : about1.frames = Frame.invoking theMethod args0 :: below0 := rfl
set_option maxRecDepth 65536 in
theorem w_args : argsFit about1.vm theMethod args0 = true := by decide +kernel
set_option maxRecDepth 65536 in
theorem w_heap : heapFits about1 = true := by decide +kernel
set_option maxRecDepth 65536 in
theorem w_runnable : about1.curStatus? = some .runnable := by decide +kernel
set_option maxRecDepth 65536 in
theorem w_alone : about1.alone = true := by decide +kernel
set_option maxRecDepth 65536 in
theorem w_named : about1.methodNamed? x = some theMethod := by decide +kernel
set_option maxRecDepth 65536 in
theorem w_hears : about1.hears theMethod below0 = true := by decide +kernel
set_option maxRecDepth 65536 in
theorem w_ripe : about1.ripe theMethod args0 below0 = true := by decide +kernel
theorem w_running : about1.status = .running := rfl
set_option maxRecDepth 65536 in
theorem w_room : about1.hasRoom e0.platform room_1 = true :=
  launch0.hasRoom_least _ room_1 (by decide +kernel) (by decide +kernel) (by decide +kernel) (by decide +kernel) (by decide +kernel) (by decide +kernel)
theorem allAtoms_all (ts : List Jvm.Cond) (a : Array Jvm.Value) (st : Jvm.State) : (allAtoms ts).before a st = ts.all (fun c => c.before a st) := by
  induction ts with
  | nil => rfl
  | cons c t ih =>
    show (Jvm.Cond.and c (allAtoms t)).before a st = _
    rw [Jvm.Cond.before_and, ih, List.all_cons]
def words1 : List Jvm.Cond := Jvm.Cond.code x code maxLocals ret :: tables_1
/-- a 'code' word, met by the world's own term for the bytes: nothing is compared byte by byte -/
theorem code_word {y : MethodName} {bytes : ByteArray} {mx : Nat} {rt : Option FieldType} {a : Array Value} {s : State} {m : MethodId} {meth : Method} {c : Code} (h1 : s.methodNamed? y = some m) (h2 : s.vm.method? m = some meth) (h3 : meth.code = some c) (h4 : c.code = bytes)
    (h5 : (c.maxLocals == mx && c.exceptionTable.isEmpty && decide (c.maxStack ≤ mostOperands) && decide (meth.sig.returnType = rt) && !meth.locks && decide (parseMethodDescriptor y.desc = some meth.sig)) = true) : (Jvm.Cond.code y bytes mx rt).before a s = true := by
  simp only [Bool.and_eq_true, beq_iff_eq, Bool.not_eq_true', decide_eq_true_eq] at h5
  obtain ⟨⟨⟨⟨⟨g1, g2⟩, g3⟩, g4⟩, g5⟩, g6⟩ := h5
  simp [Cond.before, Cond.holds, Cond.value, h1, h2, h3, h4, g1, g2, g3, g4, g5, g6]
def isCode : Jvm.Cond → Bool
  | .code _ _ _ _ => true
  | _ => false
theorem all_split {L : List Jvm.Cond} {P : Jvm.Cond → Bool} (h1 : L.all (fun c => isCode c || P c) = true) (h2 : ∀ c ∈ L.filter isCode, P c = true) : L.all P = true := by
  refine List.all_eq_true.mpr fun c hc => ?_
  have h := List.all_eq_true.mp h1 c hc
  rcases Bool.eq_false_or_eq_true (isCode c) with hi | hi
  · exact h2 c (List.mem_filter.mpr ⟨hc, hi⟩)
  · simpa [hi] using h
set_option maxRecDepth 65536 in
theorem w_c0 : (Jvm.Cond.code x code maxLocals ret).before args0 about1 = true := code_word (m := ⟨1, 2⟩) (meth := k1m2) (c := k1c2) (by decide +kernel) rfl rfl rfl (by decide +kernel)
set_option maxRecDepth 65536 in
theorem w_c1 : (Jvm.Cond.code ({ cls := "com/example/grantwell/grantwell/catalog/ActionIsOnColumnPinLaw", name := "pick", desc := "(I)Lcom/example/grantwell/grantwell/catalog/Privilege;" } : Jvm.MethodName) method_2_code (2 : Nat) (Option.some (Jvm.ClassFile.FieldType.object "com/example/grantwell/grantwell/catalog/Privilege"))).before args0 about1 = true := code_word (m := ⟨1, 1⟩) (meth := k1m1) (c := k1c1) (by decide +kernel) rfl rfl rfl (by decide +kernel)
set_option maxRecDepth 65536 in
theorem w_c2 : (Jvm.Cond.code ({ cls := "java/lang/String", name := "<init>", desc := "([C)V" } : Jvm.MethodName) jdk_42_method_3_code (2 : Nat) (Option.none : Option Jvm.ClassFile.FieldType)).before args0 about1 = true := code_word (m := ⟨9, 1⟩) (meth := k9m1) (c := k9c1) (by decide +kernel) rfl rfl rfl (by decide +kernel)
set_option maxRecDepth 65536 in
theorem w_c3 : (Jvm.Cond.code ({ cls := "java/lang/String", name := "<init>", desc := "([CIILjava/lang/Void;)V" } : Jvm.MethodName) jdk_42_method_149_code (6 : Nat) (Option.none : Option Jvm.ClassFile.FieldType)).before args0 about1 = true := code_word (m := ⟨9, 2⟩) (meth := k9m2) (c := k9c2) (by decide +kernel) rfl rfl rfl (by decide +kernel)
set_option maxRecDepth 65536 in
theorem w_c4 : (Jvm.Cond.code ({ cls := "java/lang/Object", name := "<init>", desc := "()V" } : Jvm.MethodName) object_method_1_code (1 : Nat) (Option.none : Option Jvm.ClassFile.FieldType)).before args0 about1 = true := code_word (m := ⟨0, 0⟩) (meth := k0m0) (c := k0c0) (by decide +kernel) rfl rfl rfl (by decide +kernel)
set_option maxRecDepth 65536 in
theorem w_c5 : (Jvm.Cond.code ({ cls := "com/example/grantwell/grantwell/catalog/Action", name := "<init>", desc := "(Lcom/example/grantwell/grantwell/catalog/Privilege;Ljava/lang/String;)V" } : Jvm.MethodName) prog_3_method_1_code (3 : Nat) (Option.none : Option Jvm.ClassFile.FieldType)).before args0 about1 = true := code_word (m := ⟨11, 0⟩) (meth := k11m0) (c := k11c0) (by decide +kernel) rfl rfl rfl (by decide +kernel)
set_option maxRecDepth 65536 in
theorem w_c6 : (Jvm.Cond.code ({ cls := "java/lang/Record", name := "<init>", desc := "()V" } : Jvm.MethodName) jdk_30_method_1_code (1 : Nat) (Option.none : Option Jvm.ClassFile.FieldType)).before args0 about1 = true := code_word (m := ⟨10, 0⟩) (meth := k10m0) (c := k10c0) (by decide +kernel) rfl rfl rfl (by decide +kernel)
set_option maxRecDepth 65536 in
theorem w_c7 : (Jvm.Cond.code ({ cls := "java/util/Objects", name := "requireNonNull", desc := "(Ljava/lang/Object;Ljava/lang/String;)Ljava/lang/Object;" } : Jvm.MethodName) jdk_31_method_11_code (2 : Nat) (Option.some (Jvm.ClassFile.FieldType.object "java/lang/Object"))).before args0 about1 = true := code_word (m := ⟨12, 1⟩) (meth := k12m1) (c := k12c1) (by decide +kernel) rfl rfl rfl (by decide +kernel)
set_option maxRecDepth 65536 in
theorem w_c8 : (Jvm.Cond.code ({ cls := "com/example/grantwell/grantwell/catalog/Privilege", name := "isOnColumns", desc := "()Z" } : Jvm.MethodName) prog_49_method_4_code (1 : Nat) (Option.some Jvm.ClassFile.FieldType.boolean)).before args0 about1 = true := code_word (m := ⟨6, 0⟩) (meth := k6m0) (c := k6c0) (by decide +kernel) rfl rfl rfl (by decide +kernel)
set_option maxRecDepth 65536 in
theorem w_c9 : (Jvm.Cond.code ({ cls := "com/example/grantwell/grantwell/catalog/Action", name := "isOnColumn", desc := "()Z" } : Jvm.MethodName) prog_3_method_3_code (1 : Nat) (Option.some Jvm.ClassFile.FieldType.boolean)).before args0 about1 = true := code_word (m := ⟨11, 2⟩) (meth := k11m2) (c := k11c2) (by decide +kernel) rfl rfl rfl (by decide +kernel)
set_option maxRecDepth 65536 in
theorem w_c10 : (Jvm.Cond.code ({ cls := "com/example/grantwell/grantwell/catalog/Action", name := "onTable", desc := "(Lcom/example/grantwell/grantwell/catalog/Privilege;)Lcom/example/grantwell/grantwell/catalog/Action;" } : Jvm.MethodName) prog_3_method_2_code (1 : Nat) (Option.some (Jvm.ClassFile.FieldType.object "com/example/grantwell/grantwell/catalog/Action"))).before args0 about1 = true := code_word (m := ⟨11, 1⟩) (meth := k11m1) (c := k11c1) (by decide +kernel) rfl rfl rfl (by decide +kernel)
set_option maxRecDepth 65536 in
theorem w_c11 : (Jvm.Cond.code ({ cls := "java/lang/StringUTF16", name := "compress", desc := "([CII)[B" } : Jvm.MethodName) jdk_52_method_16_code (6 : Nat) (Option.some (Jvm.ClassFile.FieldType.array Jvm.ClassFile.FieldType.byte))).before args0 about1 = true := code_word (m := ⟨13, 2⟩) (meth := k13m2) (c := k13c2) (by decide +kernel) rfl rfl rfl (by decide +kernel)
set_option maxRecDepth 65536 in
theorem w_c12 : (Jvm.Cond.code ({ cls := "java/lang/StringUTF16", name := "compress", desc := "([CI[BII)I" } : Jvm.MethodName) jdk_52_method_21_code (7 : Nat) (Option.some Jvm.ClassFile.FieldType.int)).before args0 about1 = true := code_word (m := ⟨13, 3⟩) (meth := k13m3) (c := k13c3) (by decide +kernel) rfl rfl rfl (by decide +kernel)
set_option maxRecDepth 65536 in
theorem w_c13 : (Jvm.Cond.code ({ cls := "java/lang/StringUTF16", name := "coderFromArrayLen", desc := "([BI)B" } : Jvm.MethodName) jdk_52_method_15_code (2 : Nat) (Option.some Jvm.ClassFile.FieldType.byte)).before args0 about1 = true := code_word (m := ⟨13, 1⟩) (meth := k13m1) (c := k13c1) (by decide +kernel) rfl rfl rfl (by decide +kernel)
def codes1 : List Jvm.Cond := [Jvm.Cond.code x code maxLocals ret, Jvm.Cond.code ({ cls := "com/example/grantwell/grantwell/catalog/ActionIsOnColumnPinLaw", name := "pick", desc := "(I)Lcom/example/grantwell/grantwell/catalog/Privilege;" } : Jvm.MethodName) method_2_code (2 : Nat) (Option.some (Jvm.ClassFile.FieldType.object "com/example/grantwell/grantwell/catalog/Privilege")), Jvm.Cond.code ({ cls := "java/lang/String", name := "<init>", desc := "([C)V" } : Jvm.MethodName) jdk_42_method_3_code (2 : Nat) (Option.none : Option Jvm.ClassFile.FieldType), Jvm.Cond.code ({ cls := "java/lang/String", name := "<init>", desc := "([CIILjava/lang/Void;)V" } : Jvm.MethodName) jdk_42_method_149_code (6 : Nat) (Option.none : Option Jvm.ClassFile.FieldType), Jvm.Cond.code ({ cls := "java/lang/Object", name := "<init>", desc := "()V" } : Jvm.MethodName) object_method_1_code (1 : Nat) (Option.none : Option Jvm.ClassFile.FieldType), Jvm.Cond.code ({ cls := "com/example/grantwell/grantwell/catalog/Action", name := "<init>", desc := "(Lcom/example/grantwell/grantwell/catalog/Privilege;Ljava/lang/String;)V" } : Jvm.MethodName) prog_3_method_1_code (3 : Nat) (Option.none : Option Jvm.ClassFile.FieldType), Jvm.Cond.code ({ cls := "java/lang/Record", name := "<init>", desc := "()V" } : Jvm.MethodName) jdk_30_method_1_code (1 : Nat) (Option.none : Option Jvm.ClassFile.FieldType), Jvm.Cond.code ({ cls := "java/util/Objects", name := "requireNonNull", desc := "(Ljava/lang/Object;Ljava/lang/String;)Ljava/lang/Object;" } : Jvm.MethodName) jdk_31_method_11_code (2 : Nat) (Option.some (Jvm.ClassFile.FieldType.object "java/lang/Object")), Jvm.Cond.code ({ cls := "com/example/grantwell/grantwell/catalog/Privilege", name := "isOnColumns", desc := "()Z" } : Jvm.MethodName) prog_49_method_4_code (1 : Nat) (Option.some Jvm.ClassFile.FieldType.boolean), Jvm.Cond.code ({ cls := "com/example/grantwell/grantwell/catalog/Action", name := "isOnColumn", desc := "()Z" } : Jvm.MethodName) prog_3_method_3_code (1 : Nat) (Option.some Jvm.ClassFile.FieldType.boolean), Jvm.Cond.code ({ cls := "com/example/grantwell/grantwell/catalog/Action", name := "onTable", desc := "(Lcom/example/grantwell/grantwell/catalog/Privilege;)Lcom/example/grantwell/grantwell/catalog/Action;" } : Jvm.MethodName) prog_3_method_2_code (1 : Nat) (Option.some (Jvm.ClassFile.FieldType.object "com/example/grantwell/grantwell/catalog/Action")), Jvm.Cond.code ({ cls := "java/lang/StringUTF16", name := "compress", desc := "([CII)[B" } : Jvm.MethodName) jdk_52_method_16_code (6 : Nat) (Option.some (Jvm.ClassFile.FieldType.array Jvm.ClassFile.FieldType.byte)), Jvm.Cond.code ({ cls := "java/lang/StringUTF16", name := "compress", desc := "([CI[BII)I" } : Jvm.MethodName) jdk_52_method_21_code (7 : Nat) (Option.some Jvm.ClassFile.FieldType.int), Jvm.Cond.code ({ cls := "java/lang/StringUTF16", name := "coderFromArrayLen", desc := "([BI)B" } : Jvm.MethodName) jdk_52_method_15_code (2 : Nat) (Option.some Jvm.ClassFile.FieldType.byte)]
set_option maxRecDepth 65536 in
theorem codes_eq : words1.filter isCode = codes1 := rfl
theorem w_codes : ∀ c ∈ words1.filter isCode, c.before args0 about1 = true := by
  rw [codes_eq]
  intro c hc
  simp only [codes1, List.mem_cons, List.not_mem_nil, or_false] at hc
  rcases hc with rfl | rfl | rfl | rfl | rfl | rfl | rfl | rfl | rfl | rfl | rfl | rfl | rfl | rfl
  · exact w_c0
  · exact w_c1
  · exact w_c2
  · exact w_c3
  · exact w_c4
  · exact w_c5
  · exact w_c6
  · exact w_c7
  · exact w_c8
  · exact w_c9
  · exact w_c10
  · exact w_c11
  · exact w_c12
  · exact w_c13
set_option maxRecDepth 65536 in
theorem w_t1 : (words1.take 24).all (fun c => isCode c || c.before args0 about1) = true := by decide +kernel
set_option maxRecDepth 65536 in
theorem w_t2 : ((words1.drop 24).take 24).all (fun c => isCode c || c.before args0 about1) = true := by decide +kernel
set_option maxRecDepth 65536 in
theorem w_t3 : (((words1.drop 24).drop 24).take 24).all (fun c => isCode c || c.before args0 about1) = true := by decide +kernel
set_option maxRecDepth 65536 in
theorem w_t4 : (((words1.drop 24).drop 24).drop 24).all (fun c => isCode c || c.before args0 about1) = true := by decide +kernel
theorem w_tables : (allAtoms (Jvm.Cond.code x code maxLocals ret :: tables_1)).before args0 about1 = true := by
  rw [allAtoms_all]
  show words1.all (fun c => c.before args0 about1) = true
  refine all_split ?_ w_codes
  rw [← List.take_append_drop 24 words1, List.all_append, w_t1, ← List.take_append_drop 24 (words1.drop 24), List.all_append, w_t2, ← List.take_append_drop 24 ((words1.drop 24).drop 24), List.all_append, w_t3, w_t4]
  rfl
set_option maxRecDepth 65536 in
theorem w_rest : rest_1_c.before args0 about1 = true := by decide +kernel
set_option maxRecDepth 65536 in
theorem w_case : (Jvm.Cond.and given_1 narrow_1).before args0 about1 = true := by decide +kernel
set_option maxRecDepth 65536 in
theorem w_consts : constsHeld consts_1 about1 := Jvm.Lit.constsHeldB_iff.mp (by decide +kernel)
theorem w_applies : (headSpec (Jvm.Cond.code x code maxLocals ret :: tables_1) room_1).applies x e0.platform about1 = true :=
  (Spec.applies_iff w_frames).mpr ⟨w_running, w_runnable, w_alone, w_named, w_hears, w_ripe, w_room, w_tables⟩
theorem atStart : AtStart classFile x code maxLocals ret World_1 tables_1 room_1 Calls_1 rest_1 Pre_1 launch0 p0 e0 about1 theMethod args0 below0 :=
  ⟨lists_1, trivial, launch0.admits_env _ _ _, launch0.least_env, fairChoices_fair.cas, fairChoices_fair.clock, w_frames, w_args, w_heap, w_applies, ⟨w_consts, trivial⟩, w_rest, w_case⟩
end start1
theorem witness_1 : WitnessClaimed_1 := ⟨start1.p0, start1.e0, start1.about1, start1.theMethod, start1.args0, start1.below0, start1.atStart⟩
end Jvm.Pilot.@@N@@
