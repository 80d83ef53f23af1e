import JvmDerived
import JvmDerived.Pilot.@@N@@Statement
import JvmDerived.Pilot.@@N@@Code
set_option linter.unusedVariables false
set_option linter.unusedSimpArgs false
namespace Jvm.RoadKit
open Sem ClassFile Op Lib Jvm.Stand Jvm.Free Jvm.LawKit
section New
variable {p : Program} {l : Launch} {e : Env} {R : Room} {s : State} {m : MethodId} {args : Array Value} {below : List Frame} {meth : Method} {c : Code} {T : State} {locs : List Loc} {cells slots : Nat}
theorem retI (X : Stand p l e R s m args below meth c T locs cells slots) (hx : p.tables.exec = Jvm.exec) {pc : Nat} {Ls : Array Slot} {z : Int32} {rest : List Value} (hret : meth.sig.returnType = some .int) (hd : decode c.code pc = .ok (.ireturn, 1)) {fs : List Frame}
    (hl : ∀ (f : JFrame) (acts : List Action), f.method = m → f.locked = none → f.entered = [] → (doReturn e (T.setTop f) acts (some (.int z))).1 = T.setFrames fs) : Steps p.tables e below (T.setTop (mkF m pc Ls (.int z :: rest))) (T.setFrames fs) :=
  retOut X hx hret rfl (Or.inl ⟨rfl, Or.inl rfl, z, rfl⟩) hd hl
end New
end Jvm.RoadKit
namespace Jvm.Pilot.@@N@@
open Jvm Jvm.ClassFile Sem Op Lib Jvm.Free Jvm.Stand Jvm.LawKit Jvm.RoadKit Bundle Jvm.Pilot.@@N@@.Jvm.D
section OwnKit
variable {p : Program} {l : Launch} {e : Env} {R : Room} {s s' : State} {m : MethodId} {args : Array Value} {below : List Frame} {meth : Method} {c : Code} {T T' : State} {locs : List Loc} {cells slots : Nat} {g g' : JFrame} {Z : State} {a0 : Array Value} {h : Heap} {Q : Option Value → Heap → List Loc → Prop} {k n : Nat} {E : State → Outcome → State → List Loc → Nat → Nat → Prop}
/-- the run goes on from here to its end, and the end is as Q and the frame E say -/
def Fin (E : State → Outcome → State → List Loc → Nat → Nat → Prop) (p : Program) (e : Env) (below : List Frame) (s : State) (Q : Option Value → Heap → List Loc → Prop) (k n : Nat) (T : State) (g : JFrame) : Prop :=
  ∃ (s₂ : State) (o : Outcome), Steps p.tables e below (T.setTop g) s₂ ∧ s₂.status = .running ∧ Ended s₂ below o ∧ ∃ v L, o = .returned v ∧ Q v s₂.heap L ∧ E s o s₂ L k n
theorem Fin.go (st : ∀ t, Steps p.tables e below (T'.setTop g') t → Steps p.tables e below (T.setTop g) t) (w : Fin E p e below s Q k n T' g') : Fin E p e below s Q k n T g := by
  obtain ⟨s₂, o, h1, r⟩ := w
  exact ⟨s₂, o, st _ h1, r⟩
theorem Fin.came (st : Steps p.tables e below (T.setTop g) (T'.setTop g')) (w : Fin E p e below s Q k n T' g') : Fin E p e below s Q k n T g := by
  obtain ⟨s₂, o, h1, r⟩ := w
  exact ⟨s₂, o, st.trans h1, r⟩
theorem Fin.leaveN (X : Stand p l e R s m args below meth c T locs cells slots) (eT : T.heap = h) (hlk : meth.locks = false) {v : Option Value} (hv : meth.sig.returnType = none → v = none) (hk : cells ≤ k) (hn : slots ≤ n) (hq : Q v h locs)
    (st : ∀ fs, (∀ (f : JFrame) (acts : List Action), f.method = m → f.locked = none → f.entered = [] → (doReturn e (T.setTop f) acts v).1 = T.setFrames fs) → Steps p.tables e below (T.setTop g) (T.setFrames fs)) : Fin FrameEnd p e below s Q k n T g := by
  subst eT
  obtain ⟨fs, hr, hrun, hended, hW, hsame⟩ := X.leave hv hlk
  exact ⟨_, _, st fs hr, hrun, hended, v, locs, rfl, hq, ⟨v, rfl⟩, hW, hsame.mono hk hn⟩
/-- a body's contract: called with these arguments at this heap, it comes back as Q says -/
abbrev ConW (E : State → Outcome → State → List Loc → Nat → Nat → Prop) (l : Launch) (Z : State) (ws : List Jvm.Cond) (y : MethodName) (bytes : ByteArray) (maxL : Nat) (ret : Option FieldType) (rm : Room) (as' : Array Value) (h : Heap) (Q : Option Value → Heap → List Loc → Prop) : Prop :=
  MetFree l y (head1 (Jvm.Cond.code y bytes maxL ret :: ws) rm) (fun a U => a = as' ∧ Z.Warmed39 U.vm ∧ U.heap = h) (fun _ _ _ _ _ => True) (fun _ U o U' => ∃ v L, o = .returned v ∧ Q v U'.heap L ∧ E U o U' L rm.cells rm.slots)
abbrev Con (E : State → Outcome → State → List Loc → Nat → Nat → Prop) (l : Launch) (Z : State) (y : MethodName) (bytes : ByteArray) (maxL : Nat) (ret : Option FieldType) (rm : Room) (as' : Array Value) (h : Heap) (Q : Option Value → Heap → List Loc → Prop) : Prop := ConW E l Z [] y bytes maxL ret rm as' h Q
theorem conOf {ws : List Jvm.Cond} {y : MethodName} {bytes : ByteArray} {maxL : Nat} {ret : Option FieldType} {rm : Room} {as' : Array Value} (hpn : plainFor y = true)
    (body : ∀ (p : Program) (e : Env) (s : State) (m : MethodId) (below : List Frame) (meth : Method) (c : Code) (s₁ : State), Stand p l e rm s m as' below meth c s₁ [] 0 0 → p.tables.exec = Jvm.exec → c.code = bytes → c.maxLocals = maxL → s.vm.findClass y.cls = some m.cls → meth.name = y.name →
      meth.sig.returnType = ret → meth.locks = false → Z.Warmed39 s.vm → s₁.heap = h → Fin E p e below s Q rm.cells rm.slots s₁ (entryFrame m as' maxL)) : ConW E l Z ws y bytes maxL ret rm as' h Q := by
  refine MetFree.of_bodySF hpn hisR ?_
  intro p e s m args below meth c s₁ Bd hml hP hK
  obtain ⟨rfl, hZ, hh⟩ := hP
  exact body p e s m below meth c s₁ (Stand.of_body Bd) Bd.exec Bd.bytes hml (findClass_of_methodNamed Bd.named) (name_of_methodNamed Bd.named Bd.method).1 Bd.returns (BodyLoose.notSynchronized Bd) hZ (by rw [← hh, Bd.state]; rfl)
/-- nothing moved; r is returned -/
abbrev Pure (h0 : Heap) (r : Option Value) : Option Value → Heap → List Loc → Prop := fun v h L => v = r ∧ h = h0 ∧ L = []
theorem nar_refv {v : Value} {t : FieldType} (h : v.isRef = true) (ht : t.isReference = true) : narrow t v = v := by
  rcases ref_cases h with rfl | ⟨a, rfl⟩ <;> cases t <;> first | rfl | (simp [FieldType.isReference] at ht)
theorem fits_refv {v : Value} {t : FieldType} (h : v.isRef = true) (ht : t.isReference = true) : fits t v = true := by
  rcases ref_cases h with rfl | ⟨a, rfl⟩ <;> cases t <;> first | rfl | (simp [FieldType.isReference] at ht)
theorem nar_b8 (x : Int32) : nar .byte ((Int32.toInt8 x).toInt32) = (Int32.toInt8 x).toInt32 := by simp [nar]
theorem nar_c16 (x : Int32) : nar .char ((Int32.toUInt32 x).toUInt16.toUInt32.toInt32) = (Int32.toUInt32 x).toUInt16.toUInt32.toInt32 := by simp only [nar, UInt32.toUInt32_toInt32, UInt16.toUInt16_toUInt32]
section Calls
variable {own : String} {index : Nat} {y z : MethodName} {bytes : ByteArray} {maxL : Nat} {ret : Option FieldType} {rm : Room} {W : Nat} {Qc : Option Value → Heap → List Loc → Prop} {argsL rest : List Value}
theorem callSt (X : Stand p l e R s m args below meth c T locs cells slots) (hx : p.tables.exec = Jvm.exec) (hZ : Z.Warmed39 s.vm) (hown : s.vm.findClass own = some m.cls)
    (w1 : (Jvm.Cond.methodLink own index y).before a0 Z = true) (w2 : (Jvm.Cond.static y).before a0 Z = true) (w3 : (Jvm.Cond.initialized y.cls).before a0 Z = true) (w4 : (Jvm.Cond.code y bytes maxL ret).before a0 Z = true) (hy : y.cls ≠ "java/lang/invoke/MethodHandle" ∧ y.cls ≠ "java/lang/invoke/VarHandle")
    (hC : Con FrameEnd l Z y bytes maxL ret rm argsL.toArray h Qc) (eT : T.heap = h) (hf : rm.frames + 1 ≤ R.frames) (hl : W + (maxL + 11) + rm.locals ≤ R.locals) (hc : cells + rm.cells ≤ R.cells) (hs : slots + rm.slots ≤ R.slots)
    (hg : g.method = m) (hsize : g.locals.size = c.maxLocals) (hlen : ∀ sig, parseMethodDescriptor y.desc = some sig → argsL.length = sig.parameters.length) (hstack : g.stack = argsL.reverse ++ rest) (hW : 2 * g.monitorRoom + (rest.map fun v => v.category).sum ≤ W) (hdg : decode c.code g.pc = .ok (.invokestatic index, 3)) :
    ∃ (v : Option Value) (T' : State) (L : List Loc), Stand p l e R s m args below meth c T' (locs ++ L) (cells + rm.cells) (slots + rm.slots) ∧ Qc v T'.heap L ∧ ∀ target, Steps p.tables e below (T'.setTop { g with pc := g.pc + 3, stack := v.toList ++ rest }) target → Steps p.tables e below (T.setTop g) target := by
  obtain ⟨v, _, ⟨T2, L2, k2, n2⟩, -, X2, ⟨Lc2, hQ2, l2, y2, z2⟩, st2⟩ := Jvm.LawKit.callS X hx hown (mvT hZ w1) (mvT hZ w2) (mvT hZ w3) (mvT hZ w4) hy (backOf (W := W) hC hZ w4 w3 hf hl) hg hsize hlen hstack hW hdg (fun _ _ => ⟨rfl, eT, hc, hs⟩)
  dsimp only [Pt.U, Pt.locs, Pt.cells, Pt.slots] at X2 l2 y2 z2 st2 hQ2
  subst l2 y2 z2
  exact ⟨v, T2, Lc2, X2, hQ2, st2⟩
theorem callCt (X : Stand p l e R s m args below meth c T locs cells slots) (hx : p.tables.exec = Jvm.exec) (hZ : Z.Warmed39 s.vm) (hy1 : y.name = "<init>") (hown : s.vm.findClass own = some m.cls)
    (w1 : (Jvm.Cond.methodLink own index y).before a0 Z = true) (w2 : (Jvm.Cond.instanceMethod y).before a0 Z = true) (w3 : (Jvm.Cond.initialized y.cls).before a0 Z = true) (w4 : (Jvm.Cond.code y bytes maxL none).before a0 Z = true) (hy : y.cls ≠ "java/lang/invoke/MethodHandle" ∧ y.cls ≠ "java/lang/invoke/VarHandle")
    {a : Addr} (hC : Con FrameEnd l Z y bytes maxL none rm (.ref a :: argsL).toArray h Qc) (eT : T.heap = h) (hf : rm.frames + 1 ≤ R.frames) (hl : W + (maxL + 11) + rm.locals ≤ R.locals) (hc : cells + rm.cells ≤ R.cells) (hs : slots + rm.slots ≤ R.slots)
    (hg : g.method = m) (hsize : g.locals.size = c.maxLocals) (hlen : ∀ sig, parseMethodDescriptor y.desc = some sig → argsL.length = sig.parameters.length) (hstack : g.stack = argsL.reverse ++ .ref a :: rest) (hW : 2 * g.monitorRoom + (rest.map fun v => v.category).sum ≤ W) (hdg : decode c.code g.pc = .ok (.invokespecial index, 3)) :
    ∃ (v : Option Value) (T' : State) (L : List Loc), Stand p l e R s m args below meth c T' (locs ++ L) (cells + rm.cells) (slots + rm.slots) ∧ Qc v T'.heap L ∧ ∀ target, Steps p.tables e below (T'.setTop { g with pc := g.pc + 3, stack := v.toList ++ rest }) target → Steps p.tables e below (T.setTop g) target := by
  obtain ⟨v, _, ⟨T2, L2, k2, n2⟩, -, X2, ⟨Lc2, hQ2, l2, y2, z2⟩, st2⟩ := X.specialBack hx hy1 hown (mvT hZ w1) (mvT hZ w2) (mvT hZ w4) hy (backOf (W := W) hC hZ w4 w3 hf hl) hg hsize (Steps.refl _) hlen hstack hW hdg (fun _ _ => ⟨rfl, eT, hc, hs⟩)
  dsimp only [Pt.U, Pt.locs, Pt.cells, Pt.slots] at X2 l2 y2 z2 st2 hQ2
  subst l2 y2 z2
  exact ⟨v, T2, Lc2, X2, hQ2, fun _ k => st2.trans k⟩
theorem callVt {C : String} (X : Stand p l e R s m args below meth c T locs cells slots) (hx : p.tables.exec = Jvm.exec) (hZ : Z.Warmed39 s.vm) (hown : s.vm.findClass own = some m.cls)
    (w1 : (Jvm.Cond.methodLink own index y).before a0 Z = true) (w2 : (Jvm.Cond.declares y).before a0 Z = true) (w3 : (Jvm.Cond.selects C y y).before a0 Z = true) (w4 : (Jvm.Cond.instanceMethod y).before a0 Z = true) (w5 : (Jvm.Cond.initialized y.cls).before a0 Z = true) (w6 : (Jvm.Cond.code y bytes maxL ret).before a0 Z = true)
    (hy : y.cls ≠ "java/lang/invoke/MethodHandle" ∧ y.cls ≠ "java/lang/invoke/VarHandle")
    {a : Addr} (hC : Con FrameEnd l Z y bytes maxL ret rm (.ref a :: argsL).toArray h Qc) (eT : T.heap = h) (EA : Exa Z h a C) (hf : rm.frames + 1 ≤ R.frames) (hl : W + (maxL + 11) + rm.locals ≤ R.locals) (hc : cells + rm.cells ≤ R.cells) (hs : slots + rm.slots ≤ R.slots)
    (hg : g.method = m) (hsize : g.locals.size = c.maxLocals) (hlen : ∀ sig, parseMethodDescriptor y.desc = some sig → argsL.length = sig.parameters.length) (hstack : g.stack = argsL.reverse ++ .ref a :: rest) (hW : 2 * g.monitorRoom + (rest.map fun v => v.category).sum ≤ W) (hdg : decode c.code g.pc = .ok (.invokevirtual index, 3)) :
    ∃ (v : Option Value) (T' : State) (L : List Loc), Stand p l e R s m args below meth c T' (locs ++ L) (cells + rm.cells) (slots + rm.slots) ∧ Qc v T'.heap L ∧ ∀ target, Steps p.tables e below (T'.setTop { g with pc := g.pc + 3, stack := v.toList ++ rest }) target → Steps p.tables e below (T.setTop g) target := by
  obtain ⟨cq, kq, qa, qb, qc⟩ := isOf hZ eT EA
  obtain ⟨v, _, ⟨T2, L2, k2, n2⟩, -, X2, ⟨Lc2, hQ2, l2, y2, z2⟩, st2⟩ := X.virtualBack hx hown (mvT hZ w1) (mvT hZ w2) (notFace_of_selects (args := #[]) (mvT hZ w3)) (mvT hZ w3) (mvT hZ w4) hy (backOf (W := W) hC hZ w6 w5 hf hl) qa qc hg hsize (Steps.refl _) hlen hstack hW hdg (fun _ _ => ⟨rfl, eT, hc, hs⟩)
  dsimp only [Pt.U, Pt.locs, Pt.cells, Pt.slots] at X2 l2 y2 z2 st2 hQ2
  subst l2 y2 z2
  exact ⟨v, T2, Lc2, X2, hQ2, fun _ k => st2.trans k⟩
theorem callVUt {C owner : String} (X : Stand p l e R s m args below meth c T locs cells slots) (hx : p.tables.exec = Jvm.exec) (hZ : Z.Warmed39 s.vm) (hown : s.vm.findClass own = some m.cls)
    (w1 : (Jvm.Cond.methodLink own index y).before a0 Z = true) (w1' : (Jvm.Cond.sameMethod y.cls owner y.name y.desc).before a0 Z = true) (w2 : (Jvm.Cond.declares ⟨owner, y.name, y.desc⟩).before a0 Z = true) (w3 : (Jvm.Cond.selects C y z).before a0 Z = true) (w4 : (Jvm.Cond.instanceMethod z).before a0 Z = true) (w5 : (Jvm.Cond.initialized z.cls).before a0 Z = true) (w6 : (Jvm.Cond.code z bytes maxL ret).before a0 Z = true)
    (hy : owner ≠ "java/lang/invoke/MethodHandle" ∧ owner ≠ "java/lang/invoke/VarHandle")
    {a : Addr} (hC : Con FrameEnd l Z z bytes maxL ret rm (.ref a :: argsL).toArray h Qc) (eT : T.heap = h) (EA : Exa Z h a C) (hf : rm.frames + 1 ≤ R.frames) (hl : W + (maxL + 11) + rm.locals ≤ R.locals) (hc : cells + rm.cells ≤ R.cells) (hs : slots + rm.slots ≤ R.slots)
    (hg : g.method = m) (hsize : g.locals.size = c.maxLocals) (hlen : ∀ sig, parseMethodDescriptor y.desc = some sig → argsL.length = sig.parameters.length) (hstack : g.stack = argsL.reverse ++ .ref a :: rest) (hW : 2 * g.monitorRoom + (rest.map fun v => v.category).sum ≤ W) (hdg : decode c.code g.pc = .ok (.invokevirtual index, 3)) :
    ∃ (v : Option Value) (T' : State) (L : List Loc), Stand p l e R s m args below meth c T' (locs ++ L) (cells + rm.cells) (slots + rm.slots) ∧ Qc v T'.heap L ∧ ∀ target, Steps p.tables e below (T'.setTop { g with pc := g.pc + 3, stack := v.toList ++ rest }) target → Steps p.tables e below (T.setTop g) target := by
  obtain ⟨cq, kq, qa, qb, qc⟩ := isOf hZ eT EA
  obtain ⟨v, _, ⟨T2, L2, k2, n2⟩, -, X2, ⟨Lc2, hQ2, l2, y2, z2⟩, st2⟩ := X.virtualBackUp hx hown (mvT hZ w1) (mvT hZ w1') (mvT hZ w2) hy (mvT hZ w3) (mvT hZ w4) (backOf (W := W) hC hZ w6 w5 hf hl) qa qc hg hsize (Steps.refl _) hlen hstack hW hdg (fun _ _ => ⟨rfl, eT, hc, hs⟩)
  dsimp only [Pt.U, Pt.locs, Pt.cells, Pt.slots] at X2 l2 y2 z2 st2 hQ2
  subst l2 y2 z2
  exact ⟨v, T2, Lc2, X2, hQ2, fun _ k => st2.trans k⟩
end Calls
end OwnKit
section OwnWide
variable {p : Program} {l : Launch} {e : Env} {R : Room} {s s' : State} {m : MethodId} {args : Array Value} {below : List Frame} {meth : Method} {c : Code} {T T' : State} {locs : List Loc} {cells slots : Nat} {g g' : JFrame} {Z : State} {a0 : Array Value} {h : Heap} {Q : Option Value → Heap → List Loc → Prop} {k n : Nat} {vm0 : Vm} {k0 : Nat} {EL : List (String × Nat)}
/-- the wide frame, with the invariant on the String constants -/
def EH (Z : State) (EL : List (String × Nat)) : State → Outcome → State → List Loc → Nat → Nat → Prop := fun s o t L k n => CHr Z EL s.vm s.heap t.vm t.heap ∧ ReturnedEndW s o t L k n
abbrev ConHW (l : Launch) (Z : State) (EL : List (String × Nat)) (ws : List Jvm.Cond) (y : MethodName) (bytes : ByteArray) (maxL : Nat) (ret : Option FieldType) (rm : Room) (as' : Array Value) (h : Heap) (Q : Option Value → Heap → List Loc → Prop) : Prop :=
  MetFree l y (head1 (Jvm.Cond.code y bytes maxL ret :: ws) rm) (fun a U => a = as' ∧ Z.Warmed39 U.vm ∧ U.heap = h ∧ CHv Z EL U.vm h) (fun _ _ _ _ _ => True) (fun _ U o U' => ∃ v L, o = .returned v ∧ Q v U'.heap L ∧ CHr Z EL U.vm U.heap U'.vm U'.heap ∧ ReturnedEndW U o U' L rm.cells rm.slots)
abbrev ConH (l : Launch) (Z : State) (EL : List (String × Nat)) (y : MethodName) (bytes : ByteArray) (maxL : Nat) (ret : Option FieldType) (rm : Room) (as' : Array Value) (h : Heap) (Q : Option Value → Heap → List Loc → Prop) : Prop := ConHW l Z EL [] y bytes maxL ret rm as' h Q
theorem conOfH {ws : List Jvm.Cond} {y : MethodName} {bytes : ByteArray} {maxL : Nat} {ret : Option FieldType} {rm : Room} {as' : Array Value} (hpn : plainFor y = true)
    (body : ∀ (p : Program) (e : Env) (s : State) (m : MethodId) (below : List Frame) (meth : Method) (c : Code) (s₁ : State), Stand p l e rm (s.setVm s.vm) m as' below meth c s₁ [] 0 0 → p.tables.exec = Jvm.exec → c.code = bytes → c.maxLocals = maxL → (s.setVm s.vm).vm.findClass y.cls = some m.cls → meth.name = y.name →
      meth.sig.returnType = ret → meth.locks = false → Z.Warmed39 (s.setVm s.vm).vm → s₁.heap = h → s.Since s.vm 0 → CHr Z EL s.vm s.heap s.vm h → Fin (EH Z EL) p e below s Q rm.cells rm.slots s₁ (entryFrame m as' maxL)) : ConHW l Z EL ws y bytes maxL ret rm as' h Q := by
  refine MetFree.of_bodySF hpn hisR ?_
  intro p e s m args below meth c s₁ Bd hml hP hK
  obtain ⟨rfl, hZ, rfl, hC⟩ := hP
  exact body p e s m below meth c s₁ (Stand.of_body Bd) Bd.exec Bd.bytes hml (findClass_of_methodNamed Bd.named) (name_of_methodNamed Bd.named Bd.method).1 Bd.returns (BodyLoose.notSynchronized Bd) hZ (by rw [Bd.state]; rfl) ((State.WarmedH.refl s).since 0) (CHr.refl hC)
theorem Fin.leaveH (X : Stand p l e R (s.setVm vm0) m args below meth c T locs cells slots) (hS : s.Since vm0 k0) (hk0 : k0 ≤ h.size) (hZ : Z.Warmed39 (s.setVm vm0).vm) (hEL : EW Z a0 EL) (eT : T.heap = h) (RR : CHr Z EL s.vm s.heap vm0 h) (hlk : meth.locks = false) {v : Option Value} (hv : meth.sig.returnType = none → v = none) (hk : cells ≤ k) (hn : slots ≤ n) (hq : Q v h locs)
    (st : ∀ fs, (∀ (f : JFrame) (acts : List Action), f.method = m → f.locked = none → f.entered = [] → (doReturn e (T.setTop f) acts v).1 = T.setFrames fs) → Steps p.tables e below (T.setTop g) (T.setFrames fs)) : Fin (EH Z EL) p e below s Q k n T g := by
  subst eT
  obtain ⟨fs, hr, hrun, hended, h1, h2, h3, h4⟩ := X.leaveW hS hk0 hv hlk
  exact ⟨_, _, st fs hr, hrun, hended, v, locs, rfl, hq, RR.trans (CHv.at X hZ hEL RR.1 : CHr Z EL vm0 T.heap T.vm T.heap), h1, h2, h3, h4.mono hk hn⟩
section CallsH
variable {own : String} {index : Nat} {y z : MethodName} {bytes : ByteArray} {maxL : Nat} {ret : Option FieldType} {rm : Room} {W : Nat} {Qc : Option Value → Heap → List Loc → Prop} {argsL rest : List Value}
theorem callStH (X : Stand p l e R (s.setVm vm0) m args below meth c T locs cells slots) (hx : p.tables.exec = Jvm.exec) (hZ : Z.Warmed39 (s.setVm vm0).vm) (hown : (s.setVm vm0).vm.findClass own = some m.cls)
    (w1 : (Jvm.Cond.methodLink own index y).before a0 Z = true) (w2 : (Jvm.Cond.static y).before a0 Z = true) (w3 : (Jvm.Cond.initialized y.cls).before a0 Z = true) (w4 : (Jvm.Cond.code y bytes maxL ret).before a0 Z = true) (hy : y.cls ≠ "java/lang/invoke/MethodHandle" ∧ y.cls ≠ "java/lang/invoke/VarHandle")
    (hC : ConH l Z EL y bytes maxL ret rm argsL.toArray h Qc) (eT : T.heap = h) (hS : s.Since vm0 k0) (hk : k0 ≤ h.size) (hEL : EW Z a0 EL) (H : CHv Z EL vm0 h) (hf : rm.frames + 1 ≤ R.frames) (hl : W + (maxL + 11) + rm.locals ≤ R.locals) (hc : cells + rm.cells ≤ R.cells) (hs : slots + rm.slots ≤ R.slots)
    (hg : g.method = m) (hsize : g.locals.size = c.maxLocals) (hlen : ∀ sig, parseMethodDescriptor y.desc = some sig → argsL.length = sig.parameters.length) (hstack : g.stack = argsL.reverse ++ rest) (hW : 2 * g.monitorRoom + (rest.map fun v => v.category).sum ≤ W) (hdg : decode c.code g.pc = .ok (.invokestatic index, 3)) :
    ∃ (v : Option Value) (T' : State) (L : List Loc), Stand p l e R (s.setVm T'.vm) m args below meth c T' (locs ++ L) (cells + rm.cells) (slots + rm.slots) ∧ s.Since T'.vm T'.heap.size ∧ Z.Warmed39 (s.setVm T'.vm).vm ∧ (s.setVm T'.vm).vm.findClass own = some m.cls ∧ CHr Z EL vm0 h T'.vm T'.heap ∧ Qc v T'.heap L ∧
      ∀ target, Steps p.tables e below (T'.setTop { g with pc := g.pc + 3, stack := v.toList ++ rest }) target → Steps p.tables e below (T.setTop g) target := by
  obtain ⟨v, _, ⟨T2, L2, k2, n2⟩, -, X2, hS2, hg2, ⟨Lc2, hQ2, l2, y2, z2, hC2⟩, st2⟩ := callSS X hx hown (mvT hZ w1) (mvT hZ w2) (mvT hZ w3) (mvT hZ w4) hy (backOfSH (W := W) hC hZ w4 w3 hf hl hEL H) hg hsize hlen hstack hW hdg (fun _ _ => ⟨rfl, eT, hc, hs⟩)
  dsimp only [Pt.U, Pt.locs, Pt.cells, Pt.slots] at X2 hS2 hg2 l2 y2 z2 st2 hQ2 hC2
  subst l2 y2 z2 eT
  obtain ⟨X3, hS3, hZ3, hown3⟩ := rebS hS hk X2 hS2 hg2 hZ hown
  exact ⟨v, T2, Lc2, X3, hS3, hZ3, hown3, hC2, hQ2, fun _ k => st2.trans k⟩
theorem callCtH (X : Stand p l e R (s.setVm vm0) m args below meth c T locs cells slots) (hx : p.tables.exec = Jvm.exec) (hZ : Z.Warmed39 (s.setVm vm0).vm) (hy1 : y.name = "<init>") (hown : (s.setVm vm0).vm.findClass own = some m.cls)
    (w1 : (Jvm.Cond.methodLink own index y).before a0 Z = true) (w2 : (Jvm.Cond.instanceMethod y).before a0 Z = true) (w3 : (Jvm.Cond.initialized y.cls).before a0 Z = true) (w4 : (Jvm.Cond.code y bytes maxL none).before a0 Z = true) (hy : y.cls ≠ "java/lang/invoke/MethodHandle" ∧ y.cls ≠ "java/lang/invoke/VarHandle")
    {a : Addr} (hC : ConH l Z EL y bytes maxL none rm (.ref a :: argsL).toArray h Qc) (eT : T.heap = h) (hS : s.Since vm0 k0) (hk : k0 ≤ h.size) (hEL : EW Z a0 EL) (H : CHv Z EL vm0 h) (hf : rm.frames + 1 ≤ R.frames) (hl : W + (maxL + 11) + rm.locals ≤ R.locals) (hc : cells + rm.cells ≤ R.cells) (hs : slots + rm.slots ≤ R.slots)
    (hg : g.method = m) (hsize : g.locals.size = c.maxLocals) (hlen : ∀ sig, parseMethodDescriptor y.desc = some sig → argsL.length = sig.parameters.length) (hstack : g.stack = argsL.reverse ++ .ref a :: rest) (hW : 2 * g.monitorRoom + (rest.map fun v => v.category).sum ≤ W) (hdg : decode c.code g.pc = .ok (.invokespecial index, 3)) :
    ∃ (v : Option Value) (T' : State) (L : List Loc), Stand p l e R (s.setVm T'.vm) m args below meth c T' (locs ++ L) (cells + rm.cells) (slots + rm.slots) ∧ s.Since T'.vm T'.heap.size ∧ Z.Warmed39 (s.setVm T'.vm).vm ∧ (s.setVm T'.vm).vm.findClass own = some m.cls ∧ CHr Z EL vm0 h T'.vm T'.heap ∧ Qc v T'.heap L ∧
      ∀ target, Steps p.tables e below (T'.setTop { g with pc := g.pc + 3, stack := v.toList ++ rest }) target → Steps p.tables e below (T.setTop g) target := by
  obtain ⟨v, _, ⟨T2, L2, k2, n2⟩, -, X2, hS2, hg2, ⟨Lc2, hQ2, l2, y2, z2, hC2⟩, st2⟩ := X.specialBackS hx hy1 hown (mvT hZ w1) (mvT hZ w2) (mvT hZ w4) hy (backOfSH (W := W) hC hZ w4 w3 hf hl hEL H) hg hsize (Steps.refl _) hlen hstack hW hdg (fun _ _ => ⟨rfl, eT, hc, hs⟩)
  dsimp only [Pt.U, Pt.locs, Pt.cells, Pt.slots] at X2 hS2 hg2 l2 y2 z2 st2 hQ2 hC2
  subst l2 y2 z2 eT
  obtain ⟨X3, hS3, hZ3, hown3⟩ := rebS hS hk X2 hS2 hg2 hZ hown
  exact ⟨v, T2, Lc2, X3, hS3, hZ3, hown3, hC2, hQ2, fun _ k => st2.trans k⟩
theorem callVtH {C : String} (X : Stand p l e R (s.setVm vm0) m args below meth c T locs cells slots) (hx : p.tables.exec = Jvm.exec) (hZ : Z.Warmed39 (s.setVm vm0).vm) (hown : (s.setVm vm0).vm.findClass own = some m.cls)
    (w1 : (Jvm.Cond.methodLink own index y).before a0 Z = true) (w2 : (Jvm.Cond.declares y).before a0 Z = true) (w3 : (Jvm.Cond.selects C y y).before a0 Z = true) (w4 : (Jvm.Cond.instanceMethod y).before a0 Z = true) (w5 : (Jvm.Cond.initialized y.cls).before a0 Z = true) (w6 : (Jvm.Cond.code y bytes maxL ret).before a0 Z = true)
    (hy : y.cls ≠ "java/lang/invoke/MethodHandle" ∧ y.cls ≠ "java/lang/invoke/VarHandle")
    {a : Addr} (hC : ConH l Z EL y bytes maxL ret rm (.ref a :: argsL).toArray h Qc) (eT : T.heap = h) (EA : Exa Z h a C) (hS : s.Since vm0 k0) (hk : k0 ≤ h.size) (hEL : EW Z a0 EL) (H : CHv Z EL vm0 h) (hf : rm.frames + 1 ≤ R.frames) (hl : W + (maxL + 11) + rm.locals ≤ R.locals) (hc : cells + rm.cells ≤ R.cells) (hs : slots + rm.slots ≤ R.slots)
    (hg : g.method = m) (hsize : g.locals.size = c.maxLocals) (hlen : ∀ sig, parseMethodDescriptor y.desc = some sig → argsL.length = sig.parameters.length) (hstack : g.stack = argsL.reverse ++ .ref a :: rest) (hW : 2 * g.monitorRoom + (rest.map fun v => v.category).sum ≤ W) (hdg : decode c.code g.pc = .ok (.invokevirtual index, 3)) :
    ∃ (v : Option Value) (T' : State) (L : List Loc), Stand p l e R (s.setVm T'.vm) m args below meth c T' (locs ++ L) (cells + rm.cells) (slots + rm.slots) ∧ s.Since T'.vm T'.heap.size ∧ Z.Warmed39 (s.setVm T'.vm).vm ∧ (s.setVm T'.vm).vm.findClass own = some m.cls ∧ CHr Z EL vm0 h T'.vm T'.heap ∧ Qc v T'.heap L ∧
      ∀ target, Steps p.tables e below (T'.setTop { g with pc := g.pc + 3, stack := v.toList ++ rest }) target → Steps p.tables e below (T.setTop g) target := by
  obtain ⟨cq, kq, qa, qb, qc⟩ := isOf hZ eT EA
  obtain ⟨v, _, ⟨T2, L2, k2, n2⟩, -, X2, hS2, hg2, ⟨Lc2, hQ2, l2, y2, z2, hC2⟩, st2⟩ := X.virtualBackS hx hown (mvT hZ w1) (mvT hZ w2) (notFace_of_selects (args := #[]) (mvT hZ w3)) (mvT hZ w3) (mvT hZ w4) hy (backOfSH (W := W) hC hZ w6 w5 hf hl hEL H) qa qc hg hsize (Steps.refl _) hlen hstack hW hdg (fun _ _ => ⟨rfl, eT, hc, hs⟩)
  dsimp only [Pt.U, Pt.locs, Pt.cells, Pt.slots] at X2 hS2 hg2 l2 y2 z2 st2 hQ2 hC2
  subst l2 y2 z2 eT
  obtain ⟨X3, hS3, hZ3, hown3⟩ := rebS hS hk X2 hS2 hg2 hZ hown
  exact ⟨v, T2, Lc2, X3, hS3, hZ3, hown3, hC2, hQ2, fun _ k => st2.trans k⟩
end CallsH
end OwnWide
theorem safe_of_null {Z : State} {EL : List (String × Nat)} {vm : Vm} {h : Heap} {a : Addr} (hal : Z.vm.Alike vm) (E : Exa Z h a "java/lang/String") (F : Fld Z h a "java/lang/String" "value" "[B" .null) : Safe Z EL vm h a := fun B => by
  obtain ⟨p, hp, u, a', hb, q, hq, G, hy⟩ := B
  have g1 := G.ha
  have g2 := G.hd
  obtain ⟨cS, ⟨⟨-, -, -, ⟨c1, k1, i1, f1, -⟩, -, -, -, v1, -⟩, -⟩, -, fB, -⟩ := G
  rcases hy with rfl | rfl
  · obtain ⟨cell, cf, k, i, f, e1, e2, -, -, -, -, e7⟩ := F
    cases g1.symm.trans e1
    obtain ⟨k3, e3, -⟩ := State.fieldFound?_setVm (s := Z) hal e2
    have e4 := (show (Wst Z vm h).fieldFound? _ _ _ = _ from e3).symm.trans f1
    simp only [Option.some.injEq, Prod.mk.injEq] at e4
    rw [← e4.2.2.2, e7] at v1
    simp at v1
  · obtain ⟨cell, k, e1, e2, -⟩ := E
    cases g2.symm.trans e1
    have fB' : Z.vm.findClass "[B" = some q.SA.cls := by rw [← hal.findClass]; exact fB
    obtain ⟨k1, q1, q2⟩ := Vm.findClass_spec fB'
    obtain ⟨k2, q3, q4⟩ := Vm.findClass_spec e2
    cases q1.symm.trans q3
    exact absurd (q2.symm.trans q4) (by decide)
theorem w_0 : (Jvm.Cond.constant "com/example/grantwell/grantwell/engine/PrincipalCountsPinLaw" (12 : Nat) (2147483647 : Int32)) ∈ tables_1 := List.mem_of_getElem? (i := 0) rfl
theorem w_1 : (Jvm.Cond.arrayClass Jvm.ClassFile.FieldType.long) ∈ tables_1 := List.mem_of_getElem? (i := 1) rfl
theorem w_2 : (Jvm.Cond.methodLink "com/example/grantwell/grantwell/engine/PrincipalCountsPinLaw" (13 : Nat) ({ cls := "com/example/grantwell/grantwell/engine/PrincipalCountsPinLaw", name := "str", desc := "(ICC)Ljava/lang/String;" } : Jvm.MethodName)) ∈ tables_1 := List.mem_of_getElem? (i := 2) rfl
theorem w_3 : (Jvm.Cond.static ({ cls := "com/example/grantwell/grantwell/engine/PrincipalCountsPinLaw", name := "str", desc := "(ICC)Ljava/lang/String;" } : Jvm.MethodName)) ∈ tables_1 := List.mem_of_getElem? (i := 3) rfl
theorem w_4 : (Jvm.Cond.initialized "com/example/grantwell/grantwell/engine/PrincipalCountsPinLaw") ∈ tables_1 := List.mem_of_getElem? (i := 4) rfl
theorem w_5 : (Jvm.Cond.code ({ cls := "com/example/grantwell/grantwell/engine/PrincipalCountsPinLaw", name := "str", desc := "(ICC)Ljava/lang/String;" } : Jvm.MethodName) method_2_code (3 : Nat) (Option.some (Jvm.ClassFile.FieldType.object "java/lang/String"))) ∈ tables_1 := List.mem_of_getElem? (i := 5) rfl
theorem w_6 : (Jvm.Cond.classLink "com/example/grantwell/grantwell/engine/PrincipalCountsPinLaw" (7 : Nat) "java/lang/String") ∈ tables_1 := List.mem_of_getElem? (i := 6) rfl
theorem w_7 : (Jvm.Cond.instantiable "java/lang/String" (4 : Nat)) ∈ tables_1 := List.mem_of_getElem? (i := 7) rfl
theorem w_8 : (Jvm.Cond.initialized "java/lang/String") ∈ tables_1 := List.mem_of_getElem? (i := 8) rfl
theorem w_9 : (Jvm.Cond.arrayClass Jvm.ClassFile.FieldType.char) ∈ tables_1 := List.mem_of_getElem? (i := 9) rfl
theorem w_10 : (Jvm.Cond.methodLink "com/example/grantwell/grantwell/engine/PrincipalCountsPinLaw" (9 : Nat) ({ cls := "java/lang/String", name := "<init>", desc := "([C)V" } : Jvm.MethodName)) ∈ tables_1 := List.mem_of_getElem? (i := 10) rfl
theorem w_11 : (Jvm.Cond.instanceMethod ({ cls := "java/lang/String", name := "<init>", desc := "([C)V" } : Jvm.MethodName)) ∈ tables_1 := List.mem_of_getElem? (i := 11) rfl
theorem w_12 : (Jvm.Cond.code ({ cls := "java/lang/String", name := "<init>", desc := "([C)V" } : Jvm.MethodName) jdk_42_method_3_code (2 : Nat) (Option.none : Option Jvm.ClassFile.FieldType)) ∈ tables_1 := List.mem_of_getElem? (i := 12) rfl
theorem w_13 : (Jvm.Cond.methodLink "java/lang/String" (27 : Nat) ({ cls := "java/lang/String", name := "<init>", desc := "([CIILjava/lang/Void;)V" } : Jvm.MethodName)) ∈ tables_1 := List.mem_of_getElem? (i := 13) rfl
theorem w_14 : (Jvm.Cond.instanceMethod ({ cls := "java/lang/String", name := "<init>", desc := "([CIILjava/lang/Void;)V" } : Jvm.MethodName)) ∈ tables_1 := List.mem_of_getElem? (i := 14) rfl
theorem w_16 : (Jvm.Cond.code ({ cls := "java/lang/String", name := "<init>", desc := "([CIILjava/lang/Void;)V" } : Jvm.MethodName) jdk_42_method_149_code (6 : Nat) (Option.none : Option Jvm.ClassFile.FieldType)) ∈ tables_1 := List.mem_of_getElem? (i := 16) rfl
theorem w_17 : (Jvm.Cond.methodLink "java/lang/String" (1 : Nat) ({ cls := "java/lang/Object", name := "<init>", desc := "()V" } : Jvm.MethodName)) ∈ tables_1 := List.mem_of_getElem? (i := 17) rfl
theorem w_18 : (Jvm.Cond.instanceMethod ({ cls := "java/lang/Object", name := "<init>", desc := "()V" } : Jvm.MethodName)) ∈ tables_1 := List.mem_of_getElem? (i := 18) rfl
theorem w_19 : (Jvm.Cond.code ({ cls := "java/lang/Object", name := "<init>", desc := "()V" } : Jvm.MethodName) object_method_1_code (1 : Nat) (Option.none : Option Jvm.ClassFile.FieldType)) ∈ tables_1 := List.mem_of_getElem? (i := 19) rfl
theorem w_20 : (Jvm.Cond.stringLink "java/lang/String" (7 : Nat) "") ∈ tables_1 := List.mem_of_getElem? (i := 20) rfl
theorem w_21 : (Jvm.Cond.arrayClass Jvm.ClassFile.FieldType.byte) ∈ tables_1 := List.mem_of_getElem? (i := 21) rfl
theorem w_22 : (Jvm.Cond.laysFinal "java/lang/String" "java/lang/String" "value" "[B") ∈ tables_1 := List.mem_of_getElem? (i := 22) rfl
theorem w_23 : (Jvm.Cond.laysFinal "java/lang/String" "java/lang/String" "coder" "B") ∈ tables_1 := List.mem_of_getElem? (i := 23) rfl
theorem w_26 : (Jvm.Cond.fieldLink "java/lang/String" (9 : Nat) "java/lang/String" "value" "[B") ∈ tables_1 := List.mem_of_getElem? (i := 26) rfl
theorem w_27 : (Jvm.Cond.fieldLink "java/lang/String" (15 : Nat) "java/lang/String" "coder" "B") ∈ tables_1 := List.mem_of_getElem? (i := 27) rfl
theorem w_28 : (Jvm.Cond.classLink "com/example/grantwell/grantwell/engine/PrincipalCountsPinLaw" (19 : Nat) "com/example/grantwell/grantwell/catalog/Grant") ∈ tables_1 := List.mem_of_getElem? (i := 28) rfl
theorem w_29 : (Jvm.Cond.instantiable "com/example/grantwell/grantwell/catalog/Grant" (4 : Nat)) ∈ tables_1 := List.mem_of_getElem? (i := 29) rfl
theorem w_30 : (Jvm.Cond.initialized "com/example/grantwell/grantwell/catalog/Grant") ∈ tables_1 := List.mem_of_getElem? (i := 30) rfl
theorem w_31 : (Jvm.Cond.fieldLink "com/example/grantwell/grantwell/engine/PrincipalCountsPinLaw" (21 : Nat) "com/example/grantwell/grantwell/catalog/Privilege" "SELECT" "Lcom/example/grantwell/grantwell/catalog/Privilege;") ∈ tables_1 := List.mem_of_getElem? (i := 31) rfl
theorem w_32 : (Jvm.Cond.initialized "com/example/grantwell/grantwell/catalog/Privilege") ∈ tables_1 := List.mem_of_getElem? (i := 32) rfl
theorem w_33 : (Jvm.Cond.laysStatic "com/example/grantwell/grantwell/catalog/Privilege" "SELECT" "Lcom/example/grantwell/grantwell/catalog/Privilege;") ∈ tables_1 := List.mem_of_getElem? (i := 33) rfl
theorem w_34 : (Jvm.Cond.methodLink "com/example/grantwell/grantwell/engine/PrincipalCountsPinLaw" (27 : Nat) ({ cls := "com/example/grantwell/grantwell/catalog/Action", name := "onTable", desc := "(Lcom/example/grantwell/grantwell/catalog/Privilege;)Lcom/example/grantwell/grantwell/catalog/Action;" } : Jvm.MethodName)) ∈ tables_1 := List.mem_of_getElem? (i := 34) rfl
theorem w_35 : (Jvm.Cond.static ({ cls := "com/example/grantwell/grantwell/catalog/Action", name := "onTable", desc := "(Lcom/example/grantwell/grantwell/catalog/Privilege;)Lcom/example/grantwell/grantwell/catalog/Action;" } : Jvm.MethodName)) ∈ tables_1 := List.mem_of_getElem? (i := 35) rfl
theorem w_36 : (Jvm.Cond.initialized "com/example/grantwell/grantwell/catalog/Action") ∈ tables_1 := List.mem_of_getElem? (i := 36) rfl
theorem w_37 : (Jvm.Cond.code ({ cls := "com/example/grantwell/grantwell/catalog/Action", name := "onTable", desc := "(Lcom/example/grantwell/grantwell/catalog/Privilege;)Lcom/example/grantwell/grantwell/catalog/Action;" } : Jvm.MethodName) prog_3_method_2_code (1 : Nat) (Option.some (Jvm.ClassFile.FieldType.object "com/example/grantwell/grantwell/catalog/Action"))) ∈ tables_1 := List.mem_of_getElem? (i := 37) rfl
theorem w_38 : (Jvm.Cond.classLink "com/example/grantwell/grantwell/catalog/Action" (37 : Nat) "com/example/grantwell/grantwell/catalog/Action") ∈ tables_1 := List.mem_of_getElem? (i := 38) rfl
theorem w_39 : (Jvm.Cond.instantiable "com/example/grantwell/grantwell/catalog/Action" (2 : Nat)) ∈ tables_1 := List.mem_of_getElem? (i := 39) rfl
theorem w_40 : (Jvm.Cond.methodLink "com/example/grantwell/grantwell/catalog/Action" (45 : Nat) ({ cls := "com/example/grantwell/grantwell/catalog/Action", name := "<init>", desc := "(Lcom/example/grantwell/grantwell/catalog/Privilege;Ljava/lang/String;)V" } : Jvm.MethodName)) ∈ tables_1 := List.mem_of_getElem? (i := 40) rfl
theorem w_41 : (Jvm.Cond.instanceMethod ({ cls := "com/example/grantwell/grantwell/catalog/Action", name := "<init>", desc := "(Lcom/example/grantwell/grantwell/catalog/Privilege;Ljava/lang/String;)V" } : Jvm.MethodName)) ∈ tables_1 := List.mem_of_getElem? (i := 41) rfl
theorem w_42 : (Jvm.Cond.code ({ cls := "com/example/grantwell/grantwell/catalog/Action", name := "<init>", desc := "(Lcom/example/grantwell/grantwell/catalog/Privilege;Ljava/lang/String;)V" } : Jvm.MethodName) prog_3_method_1_code (3 : Nat) (Option.none : Option Jvm.ClassFile.FieldType)) ∈ tables_1 := List.mem_of_getElem? (i := 42) rfl
theorem w_43 : (Jvm.Cond.methodLink "com/example/grantwell/grantwell/catalog/Action" (1 : Nat) ({ cls := "java/lang/Record", name := "<init>", desc := "()V" } : Jvm.MethodName)) ∈ tables_1 := List.mem_of_getElem? (i := 43) rfl
theorem w_44 : (Jvm.Cond.instanceMethod ({ cls := "java/lang/Record", name := "<init>", desc := "()V" } : Jvm.MethodName)) ∈ tables_1 := List.mem_of_getElem? (i := 44) rfl
theorem w_46 : (Jvm.Cond.initialized "java/lang/Record") ∈ tables_1 := List.mem_of_getElem? (i := 46) rfl
theorem w_47 : (Jvm.Cond.code ({ cls := "java/lang/Record", name := "<init>", desc := "()V" } : Jvm.MethodName) jdk_30_method_1_code (1 : Nat) (Option.none : Option Jvm.ClassFile.FieldType)) ∈ tables_1 := List.mem_of_getElem? (i := 47) rfl
theorem w_48 : (Jvm.Cond.methodLink "java/lang/Record" (1 : Nat) ({ cls := "java/lang/Object", name := "<init>", desc := "()V" } : Jvm.MethodName)) ∈ tables_1 := List.mem_of_getElem? (i := 48) rfl
theorem w_49 : (Jvm.Cond.stringLink "com/example/grantwell/grantwell/catalog/Action" (7 : Nat) "privilege") ∈ tables_1 := List.mem_of_getElem? (i := 49) rfl
theorem w_50 : (Jvm.Cond.methodLink "com/example/grantwell/grantwell/catalog/Action" (9 : Nat) ({ cls := "java/util/Objects", name := "requireNonNull", desc := "(Ljava/lang/Object;Ljava/lang/String;)Ljava/lang/Object;" } : Jvm.MethodName)) ∈ tables_1 := List.mem_of_getElem? (i := 50) rfl
theorem w_51 : (Jvm.Cond.static ({ cls := "java/util/Objects", name := "requireNonNull", desc := "(Ljava/lang/Object;Ljava/lang/String;)Ljava/lang/Object;" } : Jvm.MethodName)) ∈ tables_1 := List.mem_of_getElem? (i := 51) rfl
theorem w_52 : (Jvm.Cond.initialized "java/util/Objects") ∈ tables_1 := List.mem_of_getElem? (i := 52) rfl
theorem w_53 : (Jvm.Cond.code ({ cls := "java/util/Objects", name := "requireNonNull", desc := "(Ljava/lang/Object;Ljava/lang/String;)Ljava/lang/Object;" } : Jvm.MethodName) jdk_31_method_11_code (2 : Nat) (Option.some (Jvm.ClassFile.FieldType.object "java/lang/Object"))) ∈ tables_1 := List.mem_of_getElem? (i := 53) rfl
theorem w_54 : (Jvm.Cond.fieldLink "com/example/grantwell/grantwell/catalog/Action" (36 : Nat) "com/example/grantwell/grantwell/catalog/Action" "privilege" "Lcom/example/grantwell/grantwell/catalog/Privilege;") ∈ tables_1 := List.mem_of_getElem? (i := 54) rfl
theorem w_55 : (Jvm.Cond.laysFinal "com/example/grantwell/grantwell/catalog/Action" "com/example/grantwell/grantwell/catalog/Action" "privilege" "Lcom/example/grantwell/grantwell/catalog/Privilege;") ∈ tables_1 := List.mem_of_getElem? (i := 55) rfl
theorem w_56 : (Jvm.Cond.fieldLink "com/example/grantwell/grantwell/catalog/Action" (41 : Nat) "com/example/grantwell/grantwell/catalog/Action" "column" "Ljava/lang/String;") ∈ tables_1 := List.mem_of_getElem? (i := 56) rfl
theorem w_57 : (Jvm.Cond.laysFinal "com/example/grantwell/grantwell/catalog/Action" "com/example/grantwell/grantwell/catalog/Action" "column" "Ljava/lang/String;") ∈ tables_1 := List.mem_of_getElem? (i := 57) rfl
theorem w_58 : (Jvm.Cond.methodLink "com/example/grantwell/grantwell/engine/PrincipalCountsPinLaw" (33 : Nat) ({ cls := "com/example/grantwell/grantwell/catalog/Grant", name := "<init>", desc := "(Ljava/lang/String;Ljava/lang/String;Lcom/example/grantwell/grantwell/catalog/Action;Z)V" } : Jvm.MethodName)) ∈ tables_1 := List.mem_of_getElem? (i := 58) rfl
theorem w_59 : (Jvm.Cond.instanceMethod ({ cls := "com/example/grantwell/grantwell/catalog/Grant", name := "<init>", desc := "(Ljava/lang/String;Ljava/lang/String;Lcom/example/grantwell/grantwell/catalog/Action;Z)V" } : Jvm.MethodName)) ∈ tables_1 := List.mem_of_getElem? (i := 59) rfl
theorem w_60 : (Jvm.Cond.code ({ cls := "com/example/grantwell/grantwell/catalog/Grant", name := "<init>", desc := "(Ljava/lang/String;Ljava/lang/String;Lcom/example/grantwell/grantwell/catalog/Action;Z)V" } : Jvm.MethodName) prog_40_method_1_code (5 : Nat) (Option.none : Option Jvm.ClassFile.FieldType)) ∈ tables_1 := List.mem_of_getElem? (i := 60) rfl
theorem w_61 : (Jvm.Cond.methodLink "com/example/grantwell/grantwell/catalog/Grant" (1 : Nat) ({ cls := "java/lang/Record", name := "<init>", desc := "()V" } : Jvm.MethodName)) ∈ tables_1 := List.mem_of_getElem? (i := 61) rfl
theorem w_62 : (Jvm.Cond.stringLink "com/example/grantwell/grantwell/catalog/Grant" (7 : Nat) "grantee") ∈ tables_1 := List.mem_of_getElem? (i := 62) rfl
theorem w_63 : (Jvm.Cond.methodLink "com/example/grantwell/grantwell/catalog/Grant" (9 : Nat) ({ cls := "java/util/Objects", name := "requireNonNull", desc := "(Ljava/lang/Object;Ljava/lang/String;)Ljava/lang/Object;" } : Jvm.MethodName)) ∈ tables_1 := List.mem_of_getElem? (i := 63) rfl
theorem w_64 : (Jvm.Cond.stringLink "com/example/grantwell/grantwell/catalog/Grant" (15 : Nat) "grantor") ∈ tables_1 := List.mem_of_getElem? (i := 64) rfl
theorem w_65 : (Jvm.Cond.stringLink "com/example/grantwell/grantwell/catalog/Grant" (17 : Nat) "action") ∈ tables_1 := List.mem_of_getElem? (i := 65) rfl
theorem w_66 : (Jvm.Cond.fieldLink "com/example/grantwell/grantwell/catalog/Grant" (19 : Nat) "com/example/grantwell/grantwell/catalog/Grant" "grantee" "Ljava/lang/String;") ∈ tables_1 := List.mem_of_getElem? (i := 66) rfl
theorem w_67 : (Jvm.Cond.laysFinal "com/example/grantwell/grantwell/catalog/Grant" "com/example/grantwell/grantwell/catalog/Grant" "grantee" "Ljava/lang/String;") ∈ tables_1 := List.mem_of_getElem? (i := 67) rfl
theorem w_68 : (Jvm.Cond.fieldLink "com/example/grantwell/grantwell/catalog/Grant" (24 : Nat) "com/example/grantwell/grantwell/catalog/Grant" "grantor" "Ljava/lang/String;") ∈ tables_1 := List.mem_of_getElem? (i := 68) rfl
theorem w_69 : (Jvm.Cond.laysFinal "com/example/grantwell/grantwell/catalog/Grant" "com/example/grantwell/grantwell/catalog/Grant" "grantor" "Ljava/lang/String;") ∈ tables_1 := List.mem_of_getElem? (i := 69) rfl
theorem w_70 : (Jvm.Cond.fieldLink "com/example/grantwell/grantwell/catalog/Grant" (26 : Nat) "com/example/grantwell/grantwell/catalog/Grant" "action" "Lcom/example/grantwell/grantwell/catalog/Action;") ∈ tables_1 := List.mem_of_getElem? (i := 70) rfl
theorem w_71 : (Jvm.Cond.laysFinal "com/example/grantwell/grantwell/catalog/Grant" "com/example/grantwell/grantwell/catalog/Grant" "action" "Lcom/example/grantwell/grantwell/catalog/Action;") ∈ tables_1 := List.mem_of_getElem? (i := 71) rfl
theorem w_72 : (Jvm.Cond.fieldLink "com/example/grantwell/grantwell/catalog/Grant" (29 : Nat) "com/example/grantwell/grantwell/catalog/Grant" "grantOption" "Z") ∈ tables_1 := List.mem_of_getElem? (i := 72) rfl
theorem w_73 : (Jvm.Cond.laysFinal "com/example/grantwell/grantwell/catalog/Grant" "com/example/grantwell/grantwell/catalog/Grant" "grantOption" "Z") ∈ tables_1 := List.mem_of_getElem? (i := 73) rfl
theorem w_74 : (Jvm.Cond.classLink "com/example/grantwell/grantwell/engine/PrincipalCountsPinLaw" (36 : Nat) "com/example/grantwell/grantwell/engine/Principal") ∈ tables_1 := List.mem_of_getElem? (i := 74) rfl
theorem w_75 : (Jvm.Cond.instantiable "com/example/grantwell/grantwell/engine/Principal" (3 : Nat)) ∈ tables_1 := List.mem_of_getElem? (i := 75) rfl
theorem w_76 : (Jvm.Cond.initialized "com/example/grantwell/grantwell/engine/Principal") ∈ tables_1 := List.mem_of_getElem? (i := 76) rfl
theorem w_77 : (Jvm.Cond.methodLink "com/example/grantwell/grantwell/engine/PrincipalCountsPinLaw" (38 : Nat) ({ cls := "com/example/grantwell/grantwell/engine/Principal", name := "<init>", desc := "(Ljava/lang/String;Ljava/util/Set;[J)V" } : Jvm.MethodName)) ∈ tables_1 := List.mem_of_getElem? (i := 77) rfl
theorem w_78 : (Jvm.Cond.instanceMethod ({ cls := "com/example/grantwell/grantwell/engine/Principal", name := "<init>", desc := "(Ljava/lang/String;Ljava/util/Set;[J)V" } : Jvm.MethodName)) ∈ tables_1 := List.mem_of_getElem? (i := 78) rfl
theorem w_79 : (Jvm.Cond.code ({ cls := "com/example/grantwell/grantwell/engine/Principal", name := "<init>", desc := "(Ljava/lang/String;Ljava/util/Set;[J)V" } : Jvm.MethodName) prog_78_method_1_code (4 : Nat) (Option.none : Option Jvm.ClassFile.FieldType)) ∈ tables_1 := List.mem_of_getElem? (i := 79) rfl
theorem w_80 : (Jvm.Cond.methodLink "com/example/grantwell/grantwell/engine/Principal" (1 : Nat) ({ cls := "java/lang/Object", name := "<init>", desc := "()V" } : Jvm.MethodName)) ∈ tables_1 := List.mem_of_getElem? (i := 80) rfl
theorem w_81 : (Jvm.Cond.fieldLink "com/example/grantwell/grantwell/engine/Principal" (7 : Nat) "com/example/grantwell/grantwell/engine/Principal" "user" "Ljava/lang/String;") ∈ tables_1 := List.mem_of_getElem? (i := 81) rfl
theorem w_82 : (Jvm.Cond.laysFinal "com/example/grantwell/grantwell/engine/Principal" "com/example/grantwell/grantwell/engine/Principal" "user" "Ljava/lang/String;") ∈ tables_1 := List.mem_of_getElem? (i := 82) rfl
theorem w_83 : (Jvm.Cond.fieldLink "com/example/grantwell/grantwell/engine/Principal" (13 : Nat) "com/example/grantwell/grantwell/engine/Principal" "roles" "Ljava/util/Set;") ∈ tables_1 := List.mem_of_getElem? (i := 83) rfl
theorem w_84 : (Jvm.Cond.laysFinal "com/example/grantwell/grantwell/engine/Principal" "com/example/grantwell/grantwell/engine/Principal" "roles" "Ljava/util/Set;") ∈ tables_1 := List.mem_of_getElem? (i := 84) rfl
theorem w_85 : (Jvm.Cond.fieldLink "com/example/grantwell/grantwell/engine/Principal" (17 : Nat) "com/example/grantwell/grantwell/engine/Principal" "numbered" "[J") ∈ tables_1 := List.mem_of_getElem? (i := 85) rfl
theorem w_86 : (Jvm.Cond.laysFinal "com/example/grantwell/grantwell/engine/Principal" "com/example/grantwell/grantwell/engine/Principal" "numbered" "[J") ∈ tables_1 := List.mem_of_getElem? (i := 86) rfl
theorem w_87 : (Jvm.Cond.methodLink "com/example/grantwell/grantwell/engine/PrincipalCountsPinLaw" (41 : Nat) ({ cls := "com/example/grantwell/grantwell/engine/Principal", name := "counts", desc := "(ILcom/example/grantwell/grantwell/catalog/Grant;)Z" } : Jvm.MethodName)) ∈ tables_1 := List.mem_of_getElem? (i := 87) rfl
theorem w_88 : (Jvm.Cond.declares ({ cls := "com/example/grantwell/grantwell/engine/Principal", name := "counts", desc := "(ILcom/example/grantwell/grantwell/catalog/Grant;)Z" } : Jvm.MethodName)) ∈ tables_1 := List.mem_of_getElem? (i := 88) rfl
theorem w_89 : (Jvm.Cond.instanceMethod ({ cls := "com/example/grantwell/grantwell/engine/Principal", name := "counts", desc := "(ILcom/example/grantwell/grantwell/catalog/Grant;)Z" } : Jvm.MethodName)) ∈ tables_1 := List.mem_of_getElem? (i := 89) rfl
theorem w_90 : (Jvm.Cond.selects "com/example/grantwell/grantwell/engine/Principal" ({ cls := "com/example/grantwell/grantwell/engine/Principal", name := "counts", desc := "(ILcom/example/grantwell/grantwell/catalog/Grant;)Z" } : Jvm.MethodName) ({ cls := "com/example/grantwell/grantwell/engine/Principal", name := "counts", desc := "(ILcom/example/grantwell/grantwell/catalog/Grant;)Z" } : Jvm.MethodName)) ∈ tables_1 := List.mem_of_getElem? (i := 90) rfl
theorem w_91 : (Jvm.Cond.code ({ cls := "com/example/grantwell/grantwell/engine/Principal", name := "counts", desc := "(ILcom/example/grantwell/grantwell/catalog/Grant;)Z" } : Jvm.MethodName) prog_78_method_4_code (5 : Nat) (Option.some Jvm.ClassFile.FieldType.boolean)) ∈ tables_1 := List.mem_of_getElem? (i := 91) rfl
theorem w_92 : (Jvm.Cond.methodLink "com/example/grantwell/grantwell/engine/Principal" (23 : Nat) ({ cls := "com/example/grantwell/grantwell/catalog/Grant", name := "grantee", desc := "()Ljava/lang/String;" } : Jvm.MethodName)) ∈ tables_1 := List.mem_of_getElem? (i := 92) rfl
theorem w_93 : (Jvm.Cond.declares ({ cls := "com/example/grantwell/grantwell/catalog/Grant", name := "grantee", desc := "()Ljava/lang/String;" } : Jvm.MethodName)) ∈ tables_1 := List.mem_of_getElem? (i := 93) rfl
theorem w_94 : (Jvm.Cond.instanceMethod ({ cls := "com/example/grantwell/grantwell/catalog/Grant", name := "grantee", desc := "()Ljava/lang/String;" } : Jvm.MethodName)) ∈ tables_1 := List.mem_of_getElem? (i := 94) rfl
theorem w_95 : (Jvm.Cond.selects "com/example/grantwell/grantwell/catalog/Grant" ({ cls := "com/example/grantwell/grantwell/catalog/Grant", name := "grantee", desc := "()Ljava/lang/String;" } : Jvm.MethodName) ({ cls := "com/example/grantwell/grantwell/catalog/Grant", name := "grantee", desc := "()Ljava/lang/String;" } : Jvm.MethodName)) ∈ tables_1 := List.mem_of_getElem? (i := 95) rfl
theorem w_96 : (Jvm.Cond.code ({ cls := "com/example/grantwell/grantwell/catalog/Grant", name := "grantee", desc := "()Ljava/lang/String;" } : Jvm.MethodName) prog_40_method_6_code (1 : Nat) (Option.some (Jvm.ClassFile.FieldType.object "java/lang/String"))) ∈ tables_1 := List.mem_of_getElem? (i := 96) rfl
theorem w_97 : (Jvm.Cond.methodLink "com/example/grantwell/grantwell/engine/Principal" (29 : Nat) ({ cls := "java/lang/String", name := "equals", desc := "(Ljava/lang/Object;)Z" } : Jvm.MethodName)) ∈ tables_1 := List.mem_of_getElem? (i := 97) rfl
theorem w_98 : (Jvm.Cond.declares ({ cls := "java/lang/String", name := "equals", desc := "(Ljava/lang/Object;)Z" } : Jvm.MethodName)) ∈ tables_1 := List.mem_of_getElem? (i := 98) rfl
theorem w_99 : (Jvm.Cond.instanceMethod ({ cls := "java/lang/String", name := "equals", desc := "(Ljava/lang/Object;)Z" } : Jvm.MethodName)) ∈ tables_1 := List.mem_of_getElem? (i := 99) rfl
theorem w_100 : (Jvm.Cond.selects "java/lang/String" ({ cls := "java/lang/String", name := "equals", desc := "(Ljava/lang/Object;)Z" } : Jvm.MethodName) ({ cls := "java/lang/String", name := "equals", desc := "(Ljava/lang/Object;)Z" } : Jvm.MethodName)) ∈ tables_1 := List.mem_of_getElem? (i := 100) rfl
theorem w_101 : (Jvm.Cond.code ({ cls := "java/lang/String", name := "equals", desc := "(Ljava/lang/Object;)Z" } : Jvm.MethodName) jdk_42_method_66_code (3 : Nat) (Option.some Jvm.ClassFile.FieldType.boolean)) ∈ tables_1 := List.mem_of_getElem? (i := 101) rfl
theorem w_102 : (Jvm.Cond.classLink "java/lang/String" (10 : Nat) "java/lang/String") ∈ tables_1 := List.mem_of_getElem? (i := 102) rfl
theorem w_103 : (Jvm.Cond.fieldLink "java/lang/String" (38 : Nat) "java/lang/String" "COMPACT_STRINGS" "Z") ∈ tables_1 := List.mem_of_getElem? (i := 103) rfl
theorem w_104 : (Jvm.Cond.methodLink "java/lang/String" (541 : Nat) ({ cls := "java/lang/StringLatin1", name := "equals", desc := "([B[B)Z" } : Jvm.MethodName)) ∈ tables_1 := List.mem_of_getElem? (i := 104) rfl
theorem w_105 : (Jvm.Cond.static ({ cls := "java/lang/StringLatin1", name := "equals", desc := "([B[B)Z" } : Jvm.MethodName)) ∈ tables_1 := List.mem_of_getElem? (i := 105) rfl
theorem w_106 : (Jvm.Cond.initialized "java/lang/StringLatin1") ∈ tables_1 := List.mem_of_getElem? (i := 106) rfl
theorem w_107 : (Jvm.Cond.code ({ cls := "java/lang/StringLatin1", name := "equals", desc := "([B[B)Z" } : Jvm.MethodName) jdk_43_method_13_code (3 : Nat) (Option.some Jvm.ClassFile.FieldType.boolean)) ∈ tables_1 := List.mem_of_getElem? (i := 107) rfl
theorem w_108 : (Jvm.Cond.methodLink "java/lang/String" (177 : Nat) ({ cls := "java/lang/StringUTF16", name := "compress", desc := "([CII)[B" } : Jvm.MethodName)) ∈ tables_1 := List.mem_of_getElem? (i := 108) rfl
theorem w_109 : (Jvm.Cond.static ({ cls := "java/lang/StringUTF16", name := "compress", desc := "([CII)[B" } : Jvm.MethodName)) ∈ tables_1 := List.mem_of_getElem? (i := 109) rfl
theorem w_110 : (Jvm.Cond.initialized "java/lang/StringUTF16") ∈ tables_1 := List.mem_of_getElem? (i := 110) rfl
theorem w_111 : (Jvm.Cond.code ({ cls := "java/lang/StringUTF16", name := "compress", desc := "([CII)[B" } : Jvm.MethodName) jdk_52_method_16_code (6 : Nat) (Option.some (Jvm.ClassFile.FieldType.array Jvm.ClassFile.FieldType.byte))) ∈ tables_1 := List.mem_of_getElem? (i := 111) rfl
theorem w_112 : (Jvm.Cond.methodLink "java/lang/StringUTF16" (115 : Nat) ({ cls := "java/lang/StringUTF16", name := "compress", desc := "([CI[BII)I" } : Jvm.MethodName)) ∈ tables_1 := List.mem_of_getElem? (i := 112) rfl
theorem w_113 : (Jvm.Cond.static ({ cls := "java/lang/StringUTF16", name := "compress", desc := "([CI[BII)I" } : Jvm.MethodName)) ∈ tables_1 := List.mem_of_getElem? (i := 113) rfl
theorem w_114 : (Jvm.Cond.code ({ cls := "java/lang/StringUTF16", name := "compress", desc := "([CI[BII)I" } : Jvm.MethodName) jdk_52_method_21_code (7 : Nat) (Option.some Jvm.ClassFile.FieldType.int)) ∈ tables_1 := List.mem_of_getElem? (i := 114) rfl
theorem w_115 : (Jvm.Cond.methodLink "java/lang/String" (47 : Nat) ({ cls := "java/lang/StringUTF16", name := "coderFromArrayLen", desc := "([BI)B" } : Jvm.MethodName)) ∈ tables_1 := List.mem_of_getElem? (i := 115) rfl
theorem w_116 : (Jvm.Cond.static ({ cls := "java/lang/StringUTF16", name := "coderFromArrayLen", desc := "([BI)B" } : Jvm.MethodName)) ∈ tables_1 := List.mem_of_getElem? (i := 116) rfl
theorem w_117 : (Jvm.Cond.code ({ cls := "java/lang/StringUTF16", name := "coderFromArrayLen", desc := "([BI)B" } : Jvm.MethodName) jdk_52_method_15_code (2 : Nat) (Option.some Jvm.ClassFile.FieldType.byte)) ∈ tables_1 := List.mem_of_getElem? (i := 117) rfl
theorem pn_java_lang_StringUTF16 : plainName "java/lang/StringUTF16" = true := by first | (simp [plainName, overriddenIn]; done) | decide +kernel
theorem d16_0 : decode jdk_52_method_21_code 0 = .ok (.iconst 0, 1) := by decide +kernel
theorem d16_1 : decode jdk_52_method_21_code 1 = .ok (.istore 5, 2) := by decide +kernel
theorem d16_3 : decode jdk_52_method_21_code 3 = .ok (.iload 5, 2) := by decide +kernel
theorem d16_5 : decode jdk_52_method_21_code 5 = .ok (.iload 4, 2) := by decide +kernel
theorem d16_7 : decode jdk_52_method_21_code 7 = .ok (.if_icmp .ge 37, 3) := by decide +kernel
theorem d16_10 : decode jdk_52_method_21_code 10 = .ok (.aload_n 0, 1) := by decide +kernel
theorem d16_11 : decode jdk_52_method_21_code 11 = .ok (.iload_n 1, 1) := by decide +kernel
theorem d16_12 : decode jdk_52_method_21_code 12 = .ok (.caload, 1) := by decide +kernel
theorem d16_13 : decode jdk_52_method_21_code 13 = .ok (.istore 6, 2) := by decide +kernel
theorem d16_15 : decode jdk_52_method_21_code 15 = .ok (.iload 6, 2) := by decide +kernel
theorem d16_17 : decode jdk_52_method_21_code 17 = .ok (.sipush 255, 3) := by decide +kernel
theorem d16_20 : decode jdk_52_method_21_code 20 = .ok (.if_icmp .le 6, 3) := by decide +kernel
theorem d16_26 : decode jdk_52_method_21_code 26 = .ok (.aload_n 2, 1) := by decide +kernel
theorem d16_27 : decode jdk_52_method_21_code 27 = .ok (.iload_n 3, 1) := by decide +kernel
theorem d16_28 : decode jdk_52_method_21_code 28 = .ok (.iload 6, 2) := by decide +kernel
theorem d16_30 : decode jdk_52_method_21_code 30 = .ok (.i2b, 1) := by decide +kernel
theorem d16_31 : decode jdk_52_method_21_code 31 = .ok (.bastore, 1) := by decide +kernel
theorem d16_32 : decode jdk_52_method_21_code 32 = .ok (.iinc 1 1, 3) := by decide +kernel
theorem d16_35 : decode jdk_52_method_21_code 35 = .ok (.iinc 3 1, 3) := by decide +kernel
theorem d16_38 : decode jdk_52_method_21_code 38 = .ok (.iinc 5 1, 3) := by decide +kernel
theorem d16_41 : decode jdk_52_method_21_code 41 = .ok (.goto (-38), 3) := by decide +kernel
theorem d16_44 : decode jdk_52_method_21_code 44 = .ok (.iload 4, 2) := by decide +kernel
theorem d16_46 : decode jdk_52_method_21_code 46 = .ok (.ireturn, 1) := by decide +kernel
theorem d15_0 : decode jdk_52_method_16_code 0 = .ok (.iload_n 2, 1) := by decide +kernel
theorem d15_1 : decode jdk_52_method_16_code 1 = .ok (.newarray .byte, 2) := by decide +kernel
theorem d15_3 : decode jdk_52_method_16_code 3 = .ok (.astore_n 3, 1) := by decide +kernel
theorem d15_4 : decode jdk_52_method_16_code 4 = .ok (.aload_n 0, 1) := by decide +kernel
theorem d15_5 : decode jdk_52_method_16_code 5 = .ok (.iload_n 1, 1) := by decide +kernel
theorem d15_6 : decode jdk_52_method_16_code 6 = .ok (.aload_n 3, 1) := by decide +kernel
theorem d15_7 : decode jdk_52_method_16_code 7 = .ok (.iconst 0, 1) := by decide +kernel
theorem d15_8 : decode jdk_52_method_16_code 8 = .ok (.iload_n 2, 1) := by decide +kernel
theorem d15_9 : decode jdk_52_method_16_code 9 = .ok (.invokestatic 115, 3) := by decide +kernel
theorem pd_oACIABIIcI : parseMethodDescriptor "([CI[BII)I" = some ⟨[(.array .char), .int, (.array .byte), .int, .int], some .int⟩ := by decide +kernel
theorem d15_12 : decode jdk_52_method_16_code 12 = .ok (.istore 4, 2) := by decide +kernel
theorem d15_14 : decode jdk_52_method_16_code 14 = .ok (.iload 4, 2) := by decide +kernel
theorem d15_16 : decode jdk_52_method_16_code 16 = .ok (.iload_n 2, 1) := by decide +kernel
theorem d15_17 : decode jdk_52_method_16_code 17 = .ok (.if_icmp .eq 40, 3) := by decide +kernel
theorem d15_57 : decode jdk_52_method_16_code 57 = .ok (.aload_n 3, 1) := by decide +kernel
theorem d15_58 : decode jdk_52_method_16_code 58 = .ok (.areturn, 1) := by decide +kernel
theorem d17_0 : decode jdk_52_method_15_code 0 = .ok (.iload_n 1, 1) := by decide +kernel
theorem d17_1 : decode jdk_52_method_15_code 1 = .ok (.aload_n 0, 1) := by decide +kernel
theorem d17_2 : decode jdk_52_method_15_code 2 = .ok (.arraylength, 1) := by decide +kernel
theorem d17_3 : decode jdk_52_method_15_code 3 = .ok (.isub, 1) := by decide +kernel
theorem d17_4 : decode jdk_52_method_15_code 4 = .ok (.bipush 31, 2) := by decide +kernel
theorem d17_6 : decode jdk_52_method_15_code 6 = .ok (.iushr, 1) := by decide +kernel
theorem d17_7 : decode jdk_52_method_15_code 7 = .ok (.i2b, 1) := by decide +kernel
theorem d17_8 : decode jdk_52_method_15_code 8 = .ok (.ireturn, 1) := by decide +kernel
theorem pn_java_lang_String : plainName "java/lang/String" = true := by first | (simp [plainName, overriddenIn]; done) | decide +kernel
theorem d3_0 : decode jdk_42_method_149_code 0 = .ok (.aload_n 0, 1) := by decide +kernel
theorem d3_1 : decode jdk_42_method_149_code 1 = .ok (.invokespecial 1, 3) := by decide +kernel
theorem d3_4 : decode jdk_42_method_149_code 4 = .ok (.iload_n 3, 1) := by decide +kernel
theorem d3_5 : decode jdk_42_method_149_code 5 = .ok (.ifCond .ne 22, 3) := by decide +kernel
theorem d3_27 : decode jdk_42_method_149_code 27 = .ok (.getstatic 38, 3) := by decide +kernel
theorem d3_30 : decode jdk_42_method_149_code 30 = .ok (.ifCond .eq 28, 3) := by decide +kernel
theorem d3_33 : decode jdk_42_method_149_code 33 = .ok (.aload_n 1, 1) := by decide +kernel
theorem d3_34 : decode jdk_42_method_149_code 34 = .ok (.iload_n 2, 1) := by decide +kernel
theorem d3_35 : decode jdk_42_method_149_code 35 = .ok (.iload_n 3, 1) := by decide +kernel
theorem d3_36 : decode jdk_42_method_149_code 36 = .ok (.invokestatic 177, 3) := by decide +kernel
theorem pd_oACIIcAB : parseMethodDescriptor "([CII)[B" = some ⟨[(.array .char), .int, .int], some (.array .byte)⟩ := by decide +kernel
theorem d3_39 : decode jdk_42_method_149_code 39 = .ok (.astore 5, 2) := by decide +kernel
theorem d3_41 : decode jdk_42_method_149_code 41 = .ok (.aload_n 0, 1) := by decide +kernel
theorem d3_42 : decode jdk_42_method_149_code 42 = .ok (.aload 5, 2) := by decide +kernel
theorem d3_44 : decode jdk_42_method_149_code 44 = .ok (.iload_n 3, 1) := by decide +kernel
theorem d3_45 : decode jdk_42_method_149_code 45 = .ok (.invokestatic 47, 3) := by decide +kernel
theorem pd_oABIcB : parseMethodDescriptor "([BI)B" = some ⟨[(.array .byte), .int], some .byte⟩ := by decide +kernel
theorem d3_48 : decode jdk_42_method_149_code 48 = .ok (.putfield 15, 3) := by decide +kernel
theorem d3_51 : decode jdk_42_method_149_code 51 = .ok (.aload_n 0, 1) := by decide +kernel
theorem d3_52 : decode jdk_42_method_149_code 52 = .ok (.aload 5, 2) := by decide +kernel
theorem d3_54 : decode jdk_42_method_149_code 54 = .ok (.putfield 9, 3) := by decide +kernel
theorem d3_57 : decode jdk_42_method_149_code 57 = .ok (.return_, 1) := by decide +kernel
theorem d2_0 : decode jdk_42_method_3_code 0 = .ok (.aload_n 0, 1) := by decide +kernel
theorem d2_1 : decode jdk_42_method_3_code 1 = .ok (.aload_n 1, 1) := by decide +kernel
theorem d2_2 : decode jdk_42_method_3_code 2 = .ok (.iconst 0, 1) := by decide +kernel
theorem d2_3 : decode jdk_42_method_3_code 3 = .ok (.aload_n 1, 1) := by decide +kernel
theorem d2_4 : decode jdk_42_method_3_code 4 = .ok (.arraylength, 1) := by decide +kernel
theorem d2_5 : decode jdk_42_method_3_code 5 = .ok (.aconst_null, 1) := by decide +kernel
theorem d2_6 : decode jdk_42_method_3_code 6 = .ok (.invokespecial 27, 3) := by decide +kernel
theorem pd_oACIILjava_lang_Void_cV : parseMethodDescriptor "([CIILjava/lang/Void;)V" = some ⟨[(.array .char), .int, .int, (.object "java/lang/Void")], none⟩ := by decide +kernel
theorem d2_9 : decode jdk_42_method_3_code 9 = .ok (.return_, 1) := by decide +kernel
theorem d3_8 : decode jdk_42_method_149_code 8 = .ok (.aload_n 0, 1) := by decide +kernel
theorem d3_9 : decode jdk_42_method_149_code 9 = .ok (.ldc 7, 2) := by decide +kernel
theorem d3_11 : decode jdk_42_method_149_code 11 = .ok (.getfield 9, 3) := by decide +kernel
theorem d3_14 : decode jdk_42_method_149_code 14 = .ok (.putfield 9, 3) := by decide +kernel
theorem d3_17 : decode jdk_42_method_149_code 17 = .ok (.aload_n 0, 1) := by decide +kernel
theorem d3_18 : decode jdk_42_method_149_code 18 = .ok (.ldc 7, 2) := by decide +kernel
theorem d3_20 : decode jdk_42_method_149_code 20 = .ok (.getfield 15, 3) := by decide +kernel
theorem d3_23 : decode jdk_42_method_149_code 23 = .ok (.putfield 15, 3) := by decide +kernel
theorem d3_26 : decode jdk_42_method_149_code 26 = .ok (.return_, 1) := by decide +kernel
theorem pn_java_lang_StringLatin1 : plainName "java/lang/StringLatin1" = true := by first | (simp [plainName, overriddenIn]; done) | decide +kernel
theorem d14_0 : decode jdk_43_method_13_code 0 = .ok (.aload_n 0, 1) := by decide +kernel
theorem d14_1 : decode jdk_43_method_13_code 1 = .ok (.arraylength, 1) := by decide +kernel
theorem d14_2 : decode jdk_43_method_13_code 2 = .ok (.aload_n 1, 1) := by decide +kernel
theorem d14_3 : decode jdk_43_method_13_code 3 = .ok (.arraylength, 1) := by decide +kernel
theorem d14_4 : decode jdk_43_method_13_code 4 = .ok (.if_icmp .ne 30, 3) := by decide +kernel
theorem d14_7 : decode jdk_43_method_13_code 7 = .ok (.iconst 0, 1) := by decide +kernel
theorem d14_8 : decode jdk_43_method_13_code 8 = .ok (.istore_n 2, 1) := by decide +kernel
theorem d14_9 : decode jdk_43_method_13_code 9 = .ok (.iload_n 2, 1) := by decide +kernel
theorem d14_10 : decode jdk_43_method_13_code 10 = .ok (.aload_n 0, 1) := by decide +kernel
theorem d14_11 : decode jdk_43_method_13_code 11 = .ok (.arraylength, 1) := by decide +kernel
theorem d14_12 : decode jdk_43_method_13_code 12 = .ok (.if_icmp .ge 20, 3) := by decide +kernel
theorem d14_32 : decode jdk_43_method_13_code 32 = .ok (.iconst 1, 1) := by decide +kernel
theorem d14_33 : decode jdk_43_method_13_code 33 = .ok (.ireturn, 1) := by decide +kernel
theorem d13_0 : decode jdk_42_method_66_code 0 = .ok (.aload_n 0, 1) := by decide +kernel
theorem d13_1 : decode jdk_42_method_66_code 1 = .ok (.aload_n 1, 1) := by decide +kernel
theorem d13_2 : decode jdk_42_method_66_code 2 = .ok (.if_acmp .ne 5, 3) := by decide +kernel
theorem d13_7 : decode jdk_42_method_66_code 7 = .ok (.aload_n 1, 1) := by decide +kernel
theorem d13_8 : decode jdk_42_method_66_code 8 = .ok (.instanceof 10, 3) := by decide +kernel
theorem d13_11 : decode jdk_42_method_66_code 11 = .ok (.ifCond .eq 43, 3) := by decide +kernel
theorem d13_14 : decode jdk_42_method_66_code 14 = .ok (.aload_n 1, 1) := by decide +kernel
theorem d13_15 : decode jdk_42_method_66_code 15 = .ok (.checkcast 10, 3) := by decide +kernel
theorem d13_18 : decode jdk_42_method_66_code 18 = .ok (.astore_n 2, 1) := by decide +kernel
theorem d13_19 : decode jdk_42_method_66_code 19 = .ok (.getstatic 38, 3) := by decide +kernel
theorem d13_22 : decode jdk_42_method_66_code 22 = .ok (.ifCond .eq 14, 3) := by decide +kernel
theorem d13_25 : decode jdk_42_method_66_code 25 = .ok (.aload_n 0, 1) := by decide +kernel
theorem d13_26 : decode jdk_42_method_66_code 26 = .ok (.getfield 15, 3) := by decide +kernel
theorem d13_29 : decode jdk_42_method_66_code 29 = .ok (.aload_n 2, 1) := by decide +kernel
theorem d13_30 : decode jdk_42_method_66_code 30 = .ok (.getfield 15, 3) := by decide +kernel
theorem d13_33 : decode jdk_42_method_66_code 33 = .ok (.if_icmp .ne 21, 3) := by decide +kernel
theorem d13_36 : decode jdk_42_method_66_code 36 = .ok (.aload_n 0, 1) := by decide +kernel
theorem d13_37 : decode jdk_42_method_66_code 37 = .ok (.getfield 9, 3) := by decide +kernel
theorem d13_40 : decode jdk_42_method_66_code 40 = .ok (.aload_n 2, 1) := by decide +kernel
theorem d13_41 : decode jdk_42_method_66_code 41 = .ok (.getfield 9, 3) := by decide +kernel
theorem d13_44 : decode jdk_42_method_66_code 44 = .ok (.invokestatic 541, 3) := by decide +kernel
theorem pd_oABABcZ : parseMethodDescriptor "([B[B)Z" = some ⟨[(.array .byte), (.array .byte)], some .boolean⟩ := by decide +kernel
theorem d13_47 : decode jdk_42_method_66_code 47 = .ok (.ifCond .eq 7, 3) := by decide +kernel
theorem d13_54 : decode jdk_42_method_66_code 54 = .ok (.iconst 0, 1) := by decide +kernel
theorem d13_55 : decode jdk_42_method_66_code 55 = .ok (.ireturn, 1) := by decide +kernel
theorem d13_50 : decode jdk_42_method_66_code 50 = .ok (.iconst 1, 1) := by decide +kernel
theorem d13_51 : decode jdk_42_method_66_code 51 = .ok (.goto 4, 3) := by decide +kernel
theorem d14_34 : decode jdk_43_method_13_code 34 = .ok (.iconst 0, 1) := by decide +kernel
theorem d14_35 : decode jdk_43_method_13_code 35 = .ok (.ireturn, 1) := by decide +kernel
theorem d14_15 : decode jdk_43_method_13_code 15 = .ok (.aload_n 0, 1) := by decide +kernel
theorem d14_16 : decode jdk_43_method_13_code 16 = .ok (.iload_n 2, 1) := by decide +kernel
theorem d14_17 : decode jdk_43_method_13_code 17 = .ok (.baload, 1) := by decide +kernel
theorem d14_18 : decode jdk_43_method_13_code 18 = .ok (.aload_n 1, 1) := by decide +kernel
theorem d14_19 : decode jdk_43_method_13_code 19 = .ok (.iload_n 2, 1) := by decide +kernel
theorem d14_20 : decode jdk_43_method_13_code 20 = .ok (.baload, 1) := by decide +kernel
theorem d14_21 : decode jdk_43_method_13_code 21 = .ok (.if_icmp .eq 5, 3) := by decide +kernel
theorem d14_26 : decode jdk_43_method_13_code 26 = .ok (.iinc 2 1, 3) := by decide +kernel
theorem d14_29 : decode jdk_43_method_13_code 29 = .ok (.goto (-20), 3) := by decide +kernel
theorem d14_24 : decode jdk_43_method_13_code 24 = .ok (.iconst 0, 1) := by decide +kernel
theorem d14_25 : decode jdk_43_method_13_code 25 = .ok (.ireturn, 1) := by decide +kernel
theorem pn_com_example_grantwell_grantwell_engine_PrincipalCountsPinLaw : plainName "com/example/grantwell/grantwell/engine/PrincipalCountsPinLaw" = true := by first | (simp [plainName, overriddenIn]; done) | decide +kernel
theorem d1_0 : decode method_2_code 0 = .ok (.iload_n 0, 1) := by decide +kernel
theorem d1_1 : decode method_2_code 1 = .ok (.ifCond .ne 14, 3) := by decide +kernel
theorem d1_4 : decode method_2_code 4 = .ok (.new 7, 3) := by decide +kernel
theorem d1_7 : decode method_2_code 7 = .ok (.dup, 1) := by decide +kernel
theorem d1_8 : decode method_2_code 8 = .ok (.iconst 0, 1) := by decide +kernel
theorem d1_9 : decode method_2_code 9 = .ok (.newarray .char, 2) := by decide +kernel
theorem d1_11 : decode method_2_code 11 = .ok (.invokespecial 9, 3) := by decide +kernel
theorem pd_oACcV : parseMethodDescriptor "([C)V" = some ⟨[(.array .char)], none⟩ := by decide +kernel
theorem d1_14 : decode method_2_code 14 = .ok (.areturn, 1) := by decide +kernel
theorem d1_15 : decode method_2_code 15 = .ok (.iload_n 0, 1) := by decide +kernel
theorem d1_16 : decode method_2_code 16 = .ok (.iconst 1, 1) := by decide +kernel
theorem d1_17 : decode method_2_code 17 = .ok (.if_icmp .ne 18, 3) := by decide +kernel
theorem d1_20 : decode method_2_code 20 = .ok (.new 7, 3) := by decide +kernel
theorem d1_23 : decode method_2_code 23 = .ok (.dup, 1) := by decide +kernel
theorem d1_24 : decode method_2_code 24 = .ok (.iconst 1, 1) := by decide +kernel
theorem d1_25 : decode method_2_code 25 = .ok (.newarray .char, 2) := by decide +kernel
theorem d1_27 : decode method_2_code 27 = .ok (.dup, 1) := by decide +kernel
theorem d1_28 : decode method_2_code 28 = .ok (.iconst 0, 1) := by decide +kernel
theorem d1_29 : decode method_2_code 29 = .ok (.iload_n 1, 1) := by decide +kernel
theorem d1_30 : decode method_2_code 30 = .ok (.castore, 1) := by decide +kernel
theorem d1_31 : decode method_2_code 31 = .ok (.invokespecial 9, 3) := by decide +kernel
theorem d1_34 : decode method_2_code 34 = .ok (.areturn, 1) := by decide +kernel
theorem d1_35 : decode method_2_code 35 = .ok (.new 7, 3) := by decide +kernel
theorem d1_38 : decode method_2_code 38 = .ok (.dup, 1) := by decide +kernel
theorem d1_39 : decode method_2_code 39 = .ok (.iconst 2, 1) := by decide +kernel
theorem d1_40 : decode method_2_code 40 = .ok (.newarray .char, 2) := by decide +kernel
theorem d1_42 : decode method_2_code 42 = .ok (.dup, 1) := by decide +kernel
theorem d1_43 : decode method_2_code 43 = .ok (.iconst 0, 1) := by decide +kernel
theorem d1_44 : decode method_2_code 44 = .ok (.iload_n 1, 1) := by decide +kernel
theorem d1_45 : decode method_2_code 45 = .ok (.castore, 1) := by decide +kernel
theorem d1_46 : decode method_2_code 46 = .ok (.dup, 1) := by decide +kernel
theorem d1_47 : decode method_2_code 47 = .ok (.iconst 1, 1) := by decide +kernel
theorem d1_48 : decode method_2_code 48 = .ok (.iload_n 2, 1) := by decide +kernel
theorem d1_49 : decode method_2_code 49 = .ok (.castore, 1) := by decide +kernel
theorem d1_50 : decode method_2_code 50 = .ok (.invokespecial 9, 3) := by decide +kernel
theorem d1_53 : decode method_2_code 53 = .ok (.areturn, 1) := by decide +kernel
theorem pn_java_lang_Record : plainName "java/lang/Record" = true := by first | (simp [plainName, overriddenIn]; done) | decide +kernel
theorem d7_0 : decode jdk_30_method_1_code 0 = .ok (.aload_n 0, 1) := by decide +kernel
theorem d7_1 : decode jdk_30_method_1_code 1 = .ok (.invokespecial 1, 3) := by decide +kernel
theorem d7_4 : decode jdk_30_method_1_code 4 = .ok (.return_, 1) := by decide +kernel
theorem pn_java_util_Objects : plainName "java/util/Objects" = true := by first | (simp [plainName, overriddenIn]; done) | decide +kernel
theorem d8_0 : decode jdk_31_method_11_code 0 = .ok (.aload_n 0, 1) := by decide +kernel
theorem d8_1 : decode jdk_31_method_11_code 1 = .ok (.ifnonnull 12, 3) := by decide +kernel
theorem d8_13 : decode jdk_31_method_11_code 13 = .ok (.aload_n 0, 1) := by decide +kernel
theorem d8_14 : decode jdk_31_method_11_code 14 = .ok (.areturn, 1) := by decide +kernel
theorem pn_com_example_grantwell_grantwell_catalog_Action : plainName "com/example/grantwell/grantwell/catalog/Action" = true := by first | (simp [plainName, overriddenIn]; done) | decide +kernel
theorem d6_0 : decode prog_3_method_1_code 0 = .ok (.aload_n 0, 1) := by decide +kernel
theorem d6_1 : decode prog_3_method_1_code 1 = .ok (.invokespecial 1, 3) := by decide +kernel
theorem pd_ocV : parseMethodDescriptor "()V" = some ⟨[], none⟩ := by decide +kernel
theorem d6_4 : decode prog_3_method_1_code 4 = .ok (.aload_n 1, 1) := by decide +kernel
theorem d6_5 : decode prog_3_method_1_code 5 = .ok (.ldc 7, 2) := by decide +kernel
theorem d6_7 : decode prog_3_method_1_code 7 = .ok (.invokestatic 9, 3) := by decide +kernel
theorem pd_oLjava_lang_Object_Ljava_lang_String_cLjava_lang_Object_ : parseMethodDescriptor "(Ljava/lang/Object;Ljava/lang/String;)Ljava/lang/Object;" = some ⟨[(.object "java/lang/Object"), (.object "java/lang/String")], some (.object "java/lang/Object")⟩ := by decide +kernel
theorem d6_10 : decode prog_3_method_1_code 10 = .ok (.pop, 1) := by decide +kernel
theorem d6_11 : decode prog_3_method_1_code 11 = .ok (.aload_n 2, 1) := by decide +kernel
theorem d6_12 : decode prog_3_method_1_code 12 = .ok (.ifnull 27, 3) := by decide +kernel
theorem d6_39 : decode prog_3_method_1_code 39 = .ok (.aload_n 0, 1) := by decide +kernel
theorem d6_40 : decode prog_3_method_1_code 40 = .ok (.aload_n 1, 1) := by decide +kernel
theorem d6_41 : decode prog_3_method_1_code 41 = .ok (.putfield 36, 3) := by decide +kernel
theorem d6_44 : decode prog_3_method_1_code 44 = .ok (.aload_n 0, 1) := by decide +kernel
theorem d6_45 : decode prog_3_method_1_code 45 = .ok (.aload_n 2, 1) := by decide +kernel
theorem d6_46 : decode prog_3_method_1_code 46 = .ok (.putfield 41, 3) := by decide +kernel
theorem d6_49 : decode prog_3_method_1_code 49 = .ok (.return_, 1) := by decide +kernel
theorem d5_0 : decode prog_3_method_2_code 0 = .ok (.new 37, 3) := by decide +kernel
theorem d5_3 : decode prog_3_method_2_code 3 = .ok (.dup, 1) := by decide +kernel
theorem d5_4 : decode prog_3_method_2_code 4 = .ok (.aload_n 0, 1) := by decide +kernel
theorem d5_5 : decode prog_3_method_2_code 5 = .ok (.aconst_null, 1) := by decide +kernel
theorem d5_6 : decode prog_3_method_2_code 6 = .ok (.invokespecial 45, 3) := by decide +kernel
theorem pd_oLcom_example_grantwell_grantwell_catalog_Privilege_Ljava_lang_String_cV : parseMethodDescriptor "(Lcom/example/grantwell/grantwell/catalog/Privilege;Ljava/lang/String;)V" = some ⟨[(.object "com/example/grantwell/grantwell/catalog/Privilege"), (.object "java/lang/String")], none⟩ := by decide +kernel
theorem d5_9 : decode prog_3_method_2_code 9 = .ok (.areturn, 1) := by decide +kernel
theorem pn_com_example_grantwell_grantwell_catalog_Grant : plainName "com/example/grantwell/grantwell/catalog/Grant" = true := by first | (simp [plainName, overriddenIn]; done) | decide +kernel
theorem d9_0 : decode prog_40_method_1_code 0 = .ok (.aload_n 0, 1) := by decide +kernel
theorem d9_1 : decode prog_40_method_1_code 1 = .ok (.invokespecial 1, 3) := by decide +kernel
theorem d9_4 : decode prog_40_method_1_code 4 = .ok (.aload_n 1, 1) := by decide +kernel
theorem d9_5 : decode prog_40_method_1_code 5 = .ok (.ldc 7, 2) := by decide +kernel
theorem d9_7 : decode prog_40_method_1_code 7 = .ok (.invokestatic 9, 3) := by decide +kernel
theorem d9_10 : decode prog_40_method_1_code 10 = .ok (.pop, 1) := by decide +kernel
theorem d9_11 : decode prog_40_method_1_code 11 = .ok (.aload_n 2, 1) := by decide +kernel
theorem d9_12 : decode prog_40_method_1_code 12 = .ok (.ldc 15, 2) := by decide +kernel
theorem d9_14 : decode prog_40_method_1_code 14 = .ok (.invokestatic 9, 3) := by decide +kernel
theorem d9_17 : decode prog_40_method_1_code 17 = .ok (.pop, 1) := by decide +kernel
theorem d9_18 : decode prog_40_method_1_code 18 = .ok (.aload_n 3, 1) := by decide +kernel
theorem d9_19 : decode prog_40_method_1_code 19 = .ok (.ldc 17, 2) := by decide +kernel
theorem d9_21 : decode prog_40_method_1_code 21 = .ok (.invokestatic 9, 3) := by decide +kernel
theorem d9_24 : decode prog_40_method_1_code 24 = .ok (.pop, 1) := by decide +kernel
theorem d9_25 : decode prog_40_method_1_code 25 = .ok (.aload_n 0, 1) := by decide +kernel
theorem d9_26 : decode prog_40_method_1_code 26 = .ok (.aload_n 1, 1) := by decide +kernel
theorem d9_27 : decode prog_40_method_1_code 27 = .ok (.putfield 19, 3) := by decide +kernel
theorem d9_30 : decode prog_40_method_1_code 30 = .ok (.aload_n 0, 1) := by decide +kernel
theorem d9_31 : decode prog_40_method_1_code 31 = .ok (.aload_n 2, 1) := by decide +kernel
theorem d9_32 : decode prog_40_method_1_code 32 = .ok (.putfield 24, 3) := by decide +kernel
theorem d9_35 : decode prog_40_method_1_code 35 = .ok (.aload_n 0, 1) := by decide +kernel
theorem d9_36 : decode prog_40_method_1_code 36 = .ok (.aload_n 3, 1) := by decide +kernel
theorem d9_37 : decode prog_40_method_1_code 37 = .ok (.putfield 26, 3) := by decide +kernel
theorem d9_40 : decode prog_40_method_1_code 40 = .ok (.aload_n 0, 1) := by decide +kernel
theorem d9_41 : decode prog_40_method_1_code 41 = .ok (.iload 4, 2) := by decide +kernel
theorem d9_43 : decode prog_40_method_1_code 43 = .ok (.putfield 29, 3) := by decide +kernel
theorem d9_46 : decode prog_40_method_1_code 46 = .ok (.return_, 1) := by decide +kernel
theorem d12_0 : decode prog_40_method_6_code 0 = .ok (.aload_n 0, 1) := by decide +kernel
theorem d12_1 : decode prog_40_method_6_code 1 = .ok (.getfield 19, 3) := by decide +kernel
theorem d12_4 : decode prog_40_method_6_code 4 = .ok (.areturn, 1) := by decide +kernel
theorem pn_com_example_grantwell_grantwell_engine_Principal : plainName "com/example/grantwell/grantwell/engine/Principal" = true := by first | (simp [plainName, overriddenIn]; done) | decide +kernel
theorem d10_0 : decode prog_78_method_1_code 0 = .ok (.aload_n 0, 1) := by decide +kernel
theorem d10_1 : decode prog_78_method_1_code 1 = .ok (.invokespecial 1, 3) := by decide +kernel
theorem d10_4 : decode prog_78_method_1_code 4 = .ok (.aload_n 0, 1) := by decide +kernel
theorem d10_5 : decode prog_78_method_1_code 5 = .ok (.aload_n 1, 1) := by decide +kernel
theorem d10_6 : decode prog_78_method_1_code 6 = .ok (.putfield 7, 3) := by decide +kernel
theorem d10_9 : decode prog_78_method_1_code 9 = .ok (.aload_n 0, 1) := by decide +kernel
theorem d10_10 : decode prog_78_method_1_code 10 = .ok (.aload_n 2, 1) := by decide +kernel
theorem d10_11 : decode prog_78_method_1_code 11 = .ok (.putfield 13, 3) := by decide +kernel
theorem d10_14 : decode prog_78_method_1_code 14 = .ok (.aload_n 0, 1) := by decide +kernel
theorem d10_15 : decode prog_78_method_1_code 15 = .ok (.aload_n 3, 1) := by decide +kernel
theorem d10_16 : decode prog_78_method_1_code 16 = .ok (.putfield 17, 3) := by decide +kernel
theorem d10_19 : decode prog_78_method_1_code 19 = .ok (.return_, 1) := by decide +kernel
theorem d11_0 : decode prog_78_method_4_code 0 = .ok (.iload_n 1, 1) := by decide +kernel
theorem d11_1 : decode prog_78_method_4_code 1 = .ok (.iconst (-1), 1) := by decide +kernel
theorem d11_2 : decode prog_78_method_4_code 2 = .ok (.if_icmp .ne 18, 3) := by decide +kernel
theorem d11_5 : decode prog_78_method_4_code 5 = .ok (.aload_n 2, 1) := by decide +kernel
theorem d11_6 : decode prog_78_method_4_code 6 = .ok (.invokevirtual 23, 3) := by decide +kernel
theorem pd_ocLjava_lang_String_ : parseMethodDescriptor "()Ljava/lang/String;" = some ⟨[], some (.object "java/lang/String")⟩ := by decide +kernel
theorem d11_9 : decode prog_78_method_4_code 9 = .ok (.aload_n 0, 1) := by decide +kernel
theorem d11_10 : decode prog_78_method_4_code 10 = .ok (.getfield 7, 3) := by decide +kernel
theorem d11_13 : decode prog_78_method_4_code 13 = .ok (.invokevirtual 29, 3) := by decide +kernel
theorem pd_oLjava_lang_Object_cZ : parseMethodDescriptor "(Ljava/lang/Object;)Z" = some ⟨[(.object "java/lang/Object")], some .boolean⟩ := by decide +kernel
theorem d11_16 : decode prog_78_method_4_code 16 = .ok (.istore_n 3, 1) := by decide +kernel
theorem d11_17 : decode prog_78_method_4_code 17 = .ok (.goto 41, 3) := by decide +kernel
theorem d11_58 : decode prog_78_method_4_code 58 = .ok (.iload_n 3, 1) := by decide +kernel
theorem d11_59 : decode prog_78_method_4_code 59 = .ok (.ireturn, 1) := by decide +kernel
theorem d11_20 : decode prog_78_method_4_code 20 = .ok (.iload_n 1, 1) := by decide +kernel
theorem d11_21 : decode prog_78_method_4_code 21 = .ok (.bipush 6, 2) := by decide +kernel
theorem d11_23 : decode prog_78_method_4_code 23 = .ok (.iushr, 1) := by decide +kernel
theorem d11_24 : decode prog_78_method_4_code 24 = .ok (.istore 4, 2) := by decide +kernel
theorem d11_26 : decode prog_78_method_4_code 26 = .ok (.iload 4, 2) := by decide +kernel
theorem d11_28 : decode prog_78_method_4_code 28 = .ok (.aload_n 0, 1) := by decide +kernel
theorem d11_29 : decode prog_78_method_4_code 29 = .ok (.getfield 17, 3) := by decide +kernel
theorem d11_32 : decode prog_78_method_4_code 32 = .ok (.arraylength, 1) := by decide +kernel
theorem d11_33 : decode prog_78_method_4_code 33 = .ok (.if_icmp .ge 23, 3) := by decide +kernel
theorem d11_56 : decode prog_78_method_4_code 56 = .ok (.iconst 0, 1) := by decide +kernel
theorem d11_57 : decode prog_78_method_4_code 57 = .ok (.istore_n 3, 1) := by decide +kernel
theorem d11_36 : decode prog_78_method_4_code 36 = .ok (.aload_n 0, 1) := by decide +kernel
theorem d11_37 : decode prog_78_method_4_code 37 = .ok (.getfield 17, 3) := by decide +kernel
theorem d11_40 : decode prog_78_method_4_code 40 = .ok (.iload 4, 2) := by decide +kernel
theorem d11_42 : decode prog_78_method_4_code 42 = .ok (.laload, 1) := by decide +kernel
theorem d11_43 : decode prog_78_method_4_code 43 = .ok (.lconst 1, 1) := by decide +kernel
theorem d11_44 : decode prog_78_method_4_code 44 = .ok (.iload_n 1, 1) := by decide +kernel
theorem d11_45 : decode prog_78_method_4_code 45 = .ok (.lshl, 1) := by decide +kernel
theorem d11_46 : decode prog_78_method_4_code 46 = .ok (.land, 1) := by decide +kernel
theorem d11_47 : decode prog_78_method_4_code 47 = .ok (.lconst 0, 1) := by decide +kernel
theorem d11_48 : decode prog_78_method_4_code 48 = .ok (.lcmp, 1) := by decide +kernel
theorem d11_49 : decode prog_78_method_4_code 49 = .ok (.ifCond .eq 7, 3) := by decide +kernel
theorem d11_52 : decode prog_78_method_4_code 52 = .ok (.iconst 1, 1) := by decide +kernel
theorem d11_53 : decode prog_78_method_4_code 53 = .ok (.goto 4, 3) := by decide +kernel
theorem pd_oICCcLjava_lang_String_ : parseMethodDescriptor "(ICC)Ljava/lang/String;" = some ⟨[.int, .char, .char], some (.object "java/lang/String")⟩ := by decide +kernel
theorem pd_oLcom_example_grantwell_grantwell_catalog_Privilege_cLcom_example_grantwell_grantwell_catalog_Action_ : parseMethodDescriptor "(Lcom/example/grantwell/grantwell/catalog/Privilege;)Lcom/example/grantwell/grantwell/catalog/Action;" = some ⟨[(.object "com/example/grantwell/grantwell/catalog/Privilege")], some (.object "com/example/grantwell/grantwell/catalog/Action")⟩ := by decide +kernel
theorem pd_oLjava_lang_String_Ljava_lang_String_Lcom_example_grantwell_grantwell_catalog_Action_ZcV : parseMethodDescriptor "(Ljava/lang/String;Ljava/lang/String;Lcom/example/grantwell/grantwell/catalog/Action;Z)V" = some ⟨[(.object "java/lang/String"), (.object "java/lang/String"), (.object "com/example/grantwell/grantwell/catalog/Action"), .boolean], none⟩ := by decide +kernel
theorem pd_oLjava_lang_String_Ljava_util_Set_AJcV : parseMethodDescriptor "(Ljava/lang/String;Ljava/util/Set;[J)V" = some ⟨[(.object "java/lang/String"), (.object "java/util/Set"), (.array .long)], none⟩ := by decide +kernel
theorem pd_oILcom_example_grantwell_grantwell_catalog_Grant_cZ : parseMethodDescriptor "(ILcom/example/grantwell/grantwell/catalog/Grant;)Z" = some ⟨[.int, (.object "com/example/grantwell/grantwell/catalog/Grant")], some .boolean⟩ := by decide +kernel
abbrev EL : List (String × Nat) := [("java/lang/String", 7)]
theorem strW {Z : State} {a0 : Array Value} (hw : ∀ d ∈ tables_1, d.before a0 Z = true) : ∀ a ∈ Bundle.stringAtoms, a.before a0 Z = true := fun d hd => hw d ((by decide +kernel : ∀ d ∈ Bundle.stringAtoms, d ∈ tables_1) d hd)
theorem elW {Z : State} {a0 : Array Value} (hw : ∀ d ∈ tables_1, d.before a0 Z = true) : EW Z a0 EL := (EW.cons (hw _ w_20) (by decide +kernel) EW.nil)
def lenI : List Int32 → Int32 | [] => 0 | [_] => 1 | [_, _] => 2 | _ => 3
def byV (cs : List Int32) : List Value := cs.map fun c => .int ((Int32.toInt8 c).toInt32)
def eqI (cs ds : List Int32) : Int32 := if cs.map (fun c => (Int32.toInt8 c).toInt32) = ds.map (fun c => (Int32.toInt8 c).toInt32) then 1 else 0
/-- the String at a spells cs; it and its bytes lie below B -/
def StrIs (Z : State) (h : Heap) (a : Addr) (cs : List Int32) (B : Nat) : Prop := B ≤ h.size ∧ a < B ∧ Exa Z h a "java/lang/String" ∧ Fld Z h a "java/lang/String" "coder" "B" (.int (0 : Int32)) ∧ ∃ d kd, d < B ∧ Fld Z h a "java/lang/String" "value" "[B" (.ref d) ∧ Arv Z h d kd .byte (lenI cs) (byV cs) (.int (0 : Int32))
section StrIsS
variable {Z : State} {h h' : Heap} {a b : Addr} {cs : List Int32} {B sl : Nat} {v : Value} {ws : List Addr}
theorem StrIs.le (F : StrIs Z h a cs B) : B ≤ h.size := F.1
theorem StrIs.lt (F : StrIs Z h a cs B) : a < h.size := Nat.lt_of_lt_of_le F.2.1 F.1
theorem StrIs.exa (F : StrIs Z h a cs B) : Exa Z h a "java/lang/String" := F.2.2.1
theorem StrIs.ext (F : StrIs Z h a cs B) (E : Ext h h') : StrIs Z h' a cs B := by
  obtain ⟨h1, h2, h3, h4, d, kd, h5, h6, h7⟩ := F
  exact ⟨Nat.le_trans h1 E.1, h2, h3.ext E, h4.ext E, d, kd, h5, h6.ext E, h7.ext E⟩
theorem StrIs.other (F : StrIs Z h a cs B) (W : Wr h h' b sl v) (q : B ≤ b) : StrIs Z h' a cs B := by
  obtain ⟨h1, h2, h3, h4, d, kd, h5, h6, h7⟩ := F
  have na : a ≠ b := Nat.ne_of_lt (Nat.lt_of_lt_of_le h2 q)
  have nd : d ≠ b := Nat.ne_of_lt (Nat.lt_of_lt_of_le h5 q)
  exact ⟨Nat.le_trans h1 (Nat.le_of_eq W.size.symm), h2, h3.wr W, h4.other W (Or.inl na), d, kd, h5, h6.other W (Or.inl na), h7.other W nd⟩
theorem StrIs.keep (F : StrIs Z h a cs B) (K : Keep h h' ws) (q : ∀ x ∈ ws, B ≤ x) : StrIs Z h' a cs B := by
  obtain ⟨h1, h2, h3, h4, d, kd, h5, h6, h7⟩ := F
  have na : a ∉ ws := fun m => absurd h2 (Nat.not_lt.mpr (q _ m))
  have nd : d ∉ ws := fun m => absurd h5 (Nat.not_lt.mpr (q _ m))
  exact ⟨Nat.le_trans h1 K.1, h2, h3.keep K, h4.keep K na, d, kd, h5, h6.keep K na, h7.keep K nd⟩
end StrIsS
theorem eqI01 (cs ds : List Int32) : nar .boolean (eqI cs ds) = eqI cs ds := by unfold eqI; split <;> rfl
theorem bit_and (w : BitVec 64) (k : Nat) (hk : k < 64) : (w &&& (1#64 <<< k) = 0#64) ↔ w.getLsbD k = false := by
  constructor
  · intro h
    have := congrArg (fun b => b.getLsbD k) h
    simpa [hk] using this
  · intro h
    apply BitVec.eq_of_getLsbD_eq
    intro i hi
    simp only [BitVec.getLsbD_and, BitVec.getLsbD_shiftLeft, BitVec.getLsbD_zero]
    by_cases q : i = k
    · subst q; simp [h]
    · by_cases r : i < k
      · simp [r]
      · have : ¬ (i - k = 0) := by omega
        simp [this]
theorem bit_shr (w : BitVec 64) (k : Nat) : ((w >>> k) &&& 1#64 = 0#64) ↔ w.getLsbD k = false := by
  constructor
  · intro h
    have := congrArg (fun b => b.getLsbD 0) h
    simpa using this
  · intro h
    apply BitVec.eq_of_getLsbD_eq
    intro i hi
    simp only [BitVec.getLsbD_and, BitVec.getLsbD_ushiftRight, BitVec.getLsbD_zero]
    by_cases q : i = 0
    · subst q; simp [h]
    · simp [q]
theorem k64 (g : Int32) : (g.toInt64 &&& 63).toBitVec = BitVec.ofNat 64 (g.toBitVec.toNat % 64) := by
  have e : g.toInt64.toBitVec = g.toBitVec.signExtend 64 := rfl
  rw [Int64.toBitVec_and, e]
  apply BitVec.eq_of_toNat_eq
  rw [BitVec.toNat_and]
  have h63 : (63 : Int64).toBitVec.toNat = 2 ^ 6 - 1 := by decide
  rw [h63, Nat.and_two_pow_sub_one_eq_mod, BitVec.toNat_ofNat]
  have : (g.toBitVec.signExtend 64).toNat % 64 = g.toBitVec.toNat % 64 := by
    have h := congrArg (fun b : BitVec 6 => b.toNat) (show (g.toBitVec.signExtend 64).setWidth 6 = g.toBitVec.setWidth 6 by
      apply BitVec.eq_of_getLsbD_eq; intro i hi
      simp only [BitVec.getLsbD_setWidth, BitVec.getLsbD_signExtend, hi, decide_true, Bool.true_and]
      have h1 : i < 32 := by omega
      have h2 : i < 64 := by omega
      simp [h1, h2])
    simpa [BitVec.toNat_setWidth] using h
  omega
theorem tst_iff (w : Int64) (g : Int32) : (w &&& ((1 : Int64) <<< (g.toInt64 &&& 63)) = 0) ↔ w.toBitVec.getLsbD (g.toBitVec.toNat % 64) = false := by
  have hk : g.toBitVec.toNat % 64 < 64 := Nat.mod_lt _ (by decide)
  rw [← bit_and w.toBitVec _ hk, ← Int64.toBitVec_inj, Int64.toBitVec_and]
  have e : ((1 : Int64) <<< (g.toInt64 &&& 63)).toBitVec = 1#64 <<< (g.toBitVec.toNat % 64) := by
    show (1 : Int64).toBitVec <<< ((g.toInt64 &&& 63).toBitVec.smod 64) = _
    rw [k64]
    have := smod64 _ hk
    show 1#64 <<< ((BitVec.ofNat 64 (g.toBitVec.toNat % 64)).smod 64).toNat = _
    rw [this]
  rw [e]; rfl
theorem ush_iff (w : Int64) (g : Int32) : (XT.ushrL w g &&& (1 : Int64) = 0) ↔ w.toBitVec.getLsbD (g.toBitVec.toNat % 64) = false := by
  have hk : g.toBitVec.toNat % 64 < 64 := Nat.mod_lt _ (by decide)
  rw [← bit_shr w.toBitVec, ← Int64.toBitVec_inj, Int64.toBitVec_and]
  have e : (XT.ushrL w g).toBitVec = w.toBitVec >>> (g.toBitVec.toNat % 64) := by
    show (w.toUInt64 >>> (g.toInt64.toUInt64 &&& Int64.toUInt64 63)).toBitVec = _
    have q : (g.toInt64.toUInt64 &&& Int64.toUInt64 63).toBitVec = BitVec.ofNat 64 (g.toBitVec.toNat % 64) := k64 g
    rw [UInt64.toBitVec_shiftRight, q]
    show w.toBitVec >>> ((BitVec.ofNat 64 (g.toBitVec.toNat % 64)) % 64).toNat = _
    have r : ((BitVec.ofNat 64 (g.toBitVec.toNat % 64)) % 64).toNat = g.toBitVec.toNat % 64 := by
      rw [BitVec.toNat_umod, BitVec.toNat_ofNat]; show (g.toBitVec.toNat % 64) % 2^64 % 64 = _; omega
    rw [r]
  rw [e]; rfl

def strL (n c0 c1 : Int32) : List Int32 := if n = 0 then [] else if n = 1 then [c0] else [c0, c1]
theorem strL_len (n c0 c1 : Int32) : (strL n c0 c1).length ≤ 2 := by unfold strL; split; exact Nat.zero_le _; split <;> simp
def R255 (c : Int32) : Prop := ¬ c < 0 ∧ ¬ (255 : Int32) < c
theorem nar_id {c : Int32} (h : R255 c) : nar .char c = c := by
  have h1 := c_i2c c
  have h2 := h.1; have h3 := h.2
  rw [Int32.lt_iff_toInt_lt] at h2 h3
  have z : (0 : Int32).toInt = 0 := rfl
  have z2 : (255 : Int32).toInt = 255 := rfl
  apply Int32.toInt_inj.mp
  show (c.toUInt32.toUInt16.toUInt32.toInt32).toInt = c.toInt
  omega
theorem b8_inj {x y : Int32} (hx : R255 x) (hy : R255 y) (h : (Int32.toInt8 x).toInt32 = (Int32.toInt8 y).toInt32) : x = y := by
  have h1 := c_i2b x; have h2 := c_i2b y
  have a1 := hx.1; have a2 := hx.2; have b1 := hy.1; have b2 := hy.2
  rw [Int32.lt_iff_toInt_lt] at a1 a2 b1 b2
  have z : (0 : Int32).toInt = 0 := rfl
  have z2 : (255 : Int32).toInt = 255 := rfl
  have e := congrArg Int32.toInt h
  apply Int32.toInt_inj.mp
  omega
theorem r255_and (x : Int32) : R255 ((Int32.toUInt32 (x &&& (255 : Int32))).toUInt16.toUInt32.toInt32) := by
  have h1 := c_mask x 255 8 (by decide) (by decide)
  have h2 := c_i2c (x &&& 255)
  have h3 : (255 : Int32).toInt = 255 := rfl
  have z : (0 : Int32).toInt = 0 := rfl
  unfold R255
  rw [Int32.lt_iff_toInt_lt, Int32.lt_iff_toInt_lt, h3, z]
  omega
theorem xor32_lt {a b : Int32} (ha : R255 a) (hb : 0 ≤ b.toInt ∧ b.toInt < 256) : 0 ≤ (a ^^^ b).toInt ∧ (a ^^^ b).toInt < 256 := by
  have a1 := ha.1; have a2 := ha.2
  rw [Int32.lt_iff_toInt_lt] at a1 a2
  have z : (0 : Int32).toInt = 0 := rfl
  have z2 : (255 : Int32).toInt = 255 := rfl
  have na : a.toInt = (a.toBitVec.toNat : Int) ∧ a.toBitVec.toNat < 256 := by
    have : a.toInt = a.toBitVec.toInt := rfl
    have h := BitVec.toInt_eq_toNat_cond a.toBitVec
    have h2 := a.toBitVec.isLt
    split at h <;> omega
  have nb : b.toInt = (b.toBitVec.toNat : Int) ∧ b.toBitVec.toNat < 256 := by
    have : b.toInt = b.toBitVec.toInt := rfl
    have h := BitVec.toInt_eq_toNat_cond b.toBitVec
    have h2 := b.toBitVec.isLt
    split at h <;> omega
  have hx : (a ^^^ b).toBitVec.toNat < 256 := by
    rw [Int32.toBitVec_xor, BitVec.toNat_xor]
    exact Nat.xor_lt_two_pow (n := 8) na.2 nb.2
  have h := BitVec.toInt_eq_toNat_cond (a ^^^ b).toBitVec
  have e : (a ^^^ b).toInt = (a ^^^ b).toBitVec.toInt := rfl
  split at h <;> omega
theorem r255_xor {a : Int32} (ha : R255 a) (x : Int32) : R255 ((Int32.toUInt32 (a ^^^ ((x &&& (1 : Int32)) <<< ((5 : Int32) &&& 31)))).toUInt16.toUInt32.toInt32) := by
  have h1 := c_mask x 1 1 (by decide) (by decide)
  have h2 := c_ishl (x &&& 1) 5 5 (by decide)
  have h3 := rng32 ((x &&& (1 : Int32)) <<< ((5 : Int32) &&& 31))
  have h4 := xor32_lt ha (b := (x &&& (1 : Int32)) <<< ((5 : Int32) &&& 31)) (by omega)
  have h5 := c_i2c (a ^^^ ((x &&& (1 : Int32)) <<< ((5 : Int32) &&& 31)))
  have z : (0 : Int32).toInt = 0 := rfl
  have z2 : (255 : Int32).toInt = 255 := rfl
  unfold R255
  rw [Int32.lt_iff_toInt_lt, Int32.lt_iff_toInt_lt, z, z2]
  omega
theorem mod3 (x : Int32) : ((x &&& (3 : Int32)) % (3 : Int32)) = 0 ∨ ((x &&& (3 : Int32)) % (3 : Int32)) = 1 ∨ ((x &&& (3 : Int32)) % (3 : Int32)) = 2 := by
  have h1 := c_mask x 3 2 (by decide) (by decide)
  have h2 := (c_irem (x &&& 3) 3 3 rfl).1
  simp only [← Int32.toInt_inj]
  have z0 : (0 : Int32).toInt = 0 := rfl
  have z1 : (1 : Int32).toInt = 1 := rfl
  have z2 : (2 : Int32).toInt = 2 := rfl
  omega
theorem mod3n {x : Int32} (h0 : ¬ ((x &&& (2147483647 : Int32)) % (3 : Int32)) = 0) (h1 : ¬ ((x &&& (2147483647 : Int32)) % (3 : Int32)) = 1) : ((x &&& (2147483647 : Int32)) % (3 : Int32)) = 2 := by
  have h2 := c_mask x 2147483647 31 (by decide) (by decide)
  have h3 := (c_irem (x &&& 2147483647) 3 3 rfl).1
  simp only [← Int32.toInt_inj] at *
  have z0 : (0 : Int32).toInt = 0 := rfl
  have z1 : (1 : Int32).toInt = 1 := rfl
  have z2 : (2 : Int32).toInt = 2 := rfl
  omega
theorem ush6 (g : Int32) : (XT.ushr g 6).toInt = (g.toInt % 4294967296) / 64 := c_iushr g 6 6 (by decide) (by decide)
theorem ush6_nn (g : Int32) : ¬ (XT.ushr g (6 : Int32)) < 0 := by rw [Int32.lt_iff_toInt_lt, ush6]; have : (0 : Int32).toInt = 0 := rfl; omega
theorem ush6_1 {g : Int32} (h : (XT.ushr g (6 : Int32)) < 1) : (XT.ushr g (6 : Int32)) = 0 := by
  rw [Int32.lt_iff_toInt_lt] at h; rw [← Int32.toInt_inj]; rw [ush6] at *
  have : (1 : Int32).toInt = 1 := rfl; have : (0 : Int32).toInt = 0 := rfl; omega
theorem ush6_2 {g : Int32} (h : (XT.ushr g (6 : Int32)) < 2) (h' : ¬ (XT.ushr g (6 : Int32)) = 0) : (XT.ushr g (6 : Int32)) = 1 := by
  rw [Int32.lt_iff_toInt_lt] at h; rw [← Int32.toInt_inj] at *; rw [ush6] at *
  have : (2 : Int32).toInt = 2 := rfl; have : (1 : Int32).toInt = 1 := rfl; have : (0 : Int32).toInt = 0 := rfl; omega
def tst (w : Int64) (g : Int32) : Int32 := if XT.cmpL (w &&& ((1 : Int64) <<< (Int32.toInt64 g &&& 63))) (0 : Int64) = 0 then 0 else 1
def cnt0 (g q : Int32) : Int32 := if g = -1 then q else 0
def cnt1 (g q : Int32) (w0 : Int64) : Int32 := if g = -1 then q else if (XT.ushr g (6 : Int32)) < 1 then tst w0 g else 0
def cnt2 (g q : Int32) (w0 w1 : Int64) : Int32 := if g = -1 then q else if (XT.ushr g (6 : Int32)) < 2 then (if (XT.ushr g (6 : Int32)) = 0 then tst w0 g else tst w1 g) else 0
theorem cmpL0 (x : Int64) : XT.cmpL x (0 : Int64) = 0 ↔ x = 0 := by
  unfold XT.cmpL
  by_cases h : (0 : Int64) < x
  · have : ¬ x = 0 := fun e => by subst e; exact absurd h (by decide)
    simp [h, this]
  · by_cases h2 : x = 0
    · simp [h2]
    · simp [h, h2]
theorem tst_eq (w : Int64) (g : Int32) : tst w g = if XT.cmpL ((XT.ushrL w g) &&& (1 : Int64)) (0 : Int64) = 0 then 0 else 1 := by
  unfold tst
  have : (XT.cmpL (w &&& ((1 : Int64) <<< (Int32.toInt64 g &&& 63))) (0 : Int64) = 0) = (XT.cmpL ((XT.ushrL w g) &&& (1 : Int64)) (0 : Int64) = 0) := propext (by rw [cmpL0, cmpL0, tst_iff, ush_iff])
  simp only [this]
theorem ushL64 (w : Int64) {g : Int32} (h1 : ¬ g < 64) (h2 : g < 128) : XT.ushrL w (g - (64 : Int32)) &&& (1 : Int64) = 0 ↔ XT.ushrL w g &&& (1 : Int64) = 0 := by
  rw [ush_iff, ush_iff]
  have e : (g - 64).toBitVec.toNat % 64 = g.toBitVec.toNat % 64 := by
    rw [Int32.toBitVec_sub, BitVec.toNat_sub]
    have z : (64 : Int32).toBitVec.toNat = 64 := by decide
    rw [z]; have := g.toBitVec.isLt; omega
  rw [e]
theorem tst64 (w : Int64) {g : Int32} (h1 : ¬ g < 64) (h2 : g < 128) : tst w g = if XT.cmpL ((XT.ushrL w (g - (64 : Int32))) &&& (1 : Int64)) (0 : Int64) = 0 then 0 else 1 := by
  rw [tst_eq]
  have : (XT.cmpL ((XT.ushrL w (g - (64 : Int32))) &&& (1 : Int64)) (0 : Int64) = 0) = (XT.cmpL ((XT.ushrL w g) &&& (1 : Int64)) (0 : Int64) = 0) := propext (by rw [cmpL0, cmpL0, ushL64 w h1 h2])
  simp only [this]
theorem g_lit {g : Int32} : (g = -1 ↔ g.toInt = -1) ∧ (g < 0 ↔ g.toInt < 0) ∧ (g < 64 ↔ g.toInt < 64) ∧ (g < 128 ↔ g.toInt < 128) ∧ ((XT.ushr g (6 : Int32)) < 1 ↔ (g.toInt % 4294967296) / 64 < 1) ∧ ((XT.ushr g (6 : Int32)) < 2 ↔ (g.toInt % 4294967296) / 64 < 2) ∧ ((XT.ushr g (6 : Int32)) = 0 ↔ (g.toInt % 4294967296) / 64 = 0) := by
  refine ⟨?_, ?_, ?_, ?_, ?_, ?_, ?_⟩ <;> simp only [Int32.lt_iff_toInt_lt, ← Int32.toInt_inj, ush6] <;> exact Iff.rfl
/-- the names' equality, as the law reckons it -/
theorem eq_fin {lu lg a0 a1 b0 b1 : Int32} (hu : lu = 0 ∨ lu = 1 ∨ lu = 2) (hg : lg = 0 ∨ lg = 1 ∨ lg = 2) (ra0 : R255 a0) (ra1 : R255 a1) (rb0 : R255 b0) (rb1 : R255 b1) :
    eqI (strL lg b0 b1) (strL lu a0 a1) = if lu = lg ∧ (lu < 1 ∨ a0 = b0) ∧ (lu < 2 ∨ a1 = b1) then 1 else 0 := by
  have i0 : ∀ h : (Int32.toInt8 b0).toInt32 = (Int32.toInt8 a0).toInt32, a0 = b0 := fun h => (b8_inj rb0 ra0 h).symm
  have i1 : ∀ h : (Int32.toInt8 b1).toInt32 = (Int32.toInt8 a1).toInt32, a1 = b1 := fun h => (b8_inj rb1 ra1 h).symm
  have l01 : (0 : Int32) < 1 := by decide
  have l02 : (0 : Int32) < 2 := by decide
  have l12 : (1 : Int32) < 2 := by decide
  have l11 : ¬ (1 : Int32) < 1 := by decide
  have l21 : ¬ (2 : Int32) < 1 := by decide
  have l22 : ¬ (2 : Int32) < 2 := by decide
  rcases hu with rfl | rfl | rfl <;> rcases hg with rfl | rfl | rfl <;> simp only [eqI, strL, l01, l02, l12, l11, l21, l22, if_true, if_false, true_or, false_or, List.map_cons, List.map_nil, true_and, and_true, false_and] <;> (first | decide | skip) <;>
    by_cases q0 : a0 = b0 <;> by_cases q1 : a1 = b1 <;> simp_all
set_option maxRecDepth 65536 in
set_option maxHeartbeats 40000000 in
theorem rmCmpB1 (l : Launch) (Z : State) (a0 : Array Value) (hw : ∀ d ∈ tables_1, d.before a0 Z = true) (n0 : Nat) (h0 : Heap) (O : Old Z n0 h0) (b d : Addr) (kb kd : ClassId) (x1 : Int32) (VB : Arv Z h0 b kb .char (1 : Int32) [(.int x1)] (.int (0 : Int32))) (VD : Arv Z h0 d kd .byte (1 : Int32) [(.int (0 : Int32))] (.int (0 : Int32))) (hp1 : ¬ (255 : Int32) < x1) (nd : n0 ≤ d) (nbd : b ≠ d) :
    ConW FrameEnd l Z [] (⟨"java/lang/StringUTF16", "compress", "([CI[BII)I"⟩ : MethodName) jdk_52_method_21_code 7 (some .int) ({ frames := 0, cells := 0, slots := 0, locals := 0 } : Room) #[(.ref b), (.int (0 : Int32)), (.ref d), (.int (0 : Int32)), (.int (1 : Int32))] h0 (fun v h L => v = some (.int (1 : Int32)) ∧ Fr n0 L ∧ Keep h0 h [d] ∧ Arv Z h d kd .byte (1 : Int32) [(.int ((Int32.toInt8 x1).toInt32))] (.int (0 : Int32))) := by
  refine conOf (plainFor_of_name pn_java_lang_StringUTF16) ?_
  intro p e s m below mth cc s₁ X0 hx hby hml hown hnm hret hlk hZ e0
  have N0 := Fr.nil n0
  have K0 := Keep.refl h0 ([d] : List Addr)
  refine Fin.came (castTop (t := _) (by first | (simp [entryFrame, mkF, argsToLocals, Value.category]; done) | rfl) (Steps.refl _) : Steps p.tables e below (s₁.setTop (entryFrame m #[(.ref b), (.int (0 : Int32)), (.ref d), (.int (0 : Int32)), (.int (1 : Int32))] 7)) (s₁.setTop (mkF m 0 #[.val (.ref b), .val (.int (0 : Int32)), .val (.ref d), .val (.int (0 : Int32)), .val (.int (1 : Int32)), .unset, .unset] []))) ?_
  show Fin _ p e below s _ _ _ s₁ (mkF m 0 #[.val (.ref b), .val (.int (0 : Int32)), .val (.ref d), .val (.int (0 : Int32)), .val (.int (1 : Int32)), .unset, .unset] [])
  refine Fin.go (fun _ k => XS.iconst X0.here hx rfl (hb hby d16_0) k) ?_
  refine Fin.go (fun _ k => XS.istore X0.here hx rfl (hb hby d16_1) rfl (l' := #[.val (.ref b), .val (.int (0 : Int32)), .val (.ref d), .val (.int (0 : Int32)), .val (.int (1 : Int32)), .val (.int (0 : Int32)), .unset]) rfl k) ?_
  refine Fin.go (fun _ k => XS.iload X0.here hx rfl (hb hby d16_3) rfl k) ?_
  refine Fin.go (fun _ k => XS.iload X0.here hx rfl (hb hby d16_5) rfl k) ?_
  show Fin _ p e below s _ _ _ s₁ (mkF m 7 #[.val (.ref b), .val (.int (0 : Int32)), .val (.ref d), .val (.int (0 : Int32)), .val (.int (1 : Int32)), .val (.int (0 : Int32)), .unset] [(.int (1 : Int32)), (.int (0 : Int32))])
  refine Fin.go (fun _ k => XS.icmpNo X0.here hx rfl (hb hby d16_7) rfl (XT.ii_ge_f (by decide)) k) ?_
  show Fin _ p e below s _ _ _ s₁ (mkF m 10 #[.val (.ref b), .val (.int (0 : Int32)), .val (.ref d), .val (.int (0 : Int32)), .val (.int (1 : Int32)), .val (.int (0 : Int32)), .unset] [])
  refine Fin.go (fun _ k => XS.aloadN X0.here hx rfl (hb hby d16_10) rfl rfl k) ?_
  refine Fin.go (fun _ k => XS.iloadN X0.here hx rfl (hb hby d16_11) rfl k) ?_
  obtain ⟨c11, B11, q11, S11, M11, H11, G11⟩ := id VB
  have i11 := inb_of S11 ⟨(by decide : ¬ ((0 : Int32) < (0 : Int32))), (by decide : (0 : Int32) < (1 : Int32))⟩
  refine Fin.go (fun _ k => X0.caload hx (j := (0 : Int32)) (v := (.int x1)) (by rw [e0]; exact B11.1) (State.isArrayOf_alike hZ.alike B11.2.1) B11.2.2 i11 (Has.at H11 i11 rfl) (g := (mkF m 12 #[.val (.ref b), .val (.int (0 : Int32)), .val (.ref d), .val (.int (0 : Int32)), .val (.int (1 : Int32)), .val (.int (0 : Int32)), .unset] [(.int (0 : Int32)), (.ref b)])) rfl rfl (hb hby d16_12) _ k) ?_
  show Fin _ p e below s _ _ _ s₁ (mkF m 13 #[.val (.ref b), .val (.int (0 : Int32)), .val (.ref d), .val (.int (0 : Int32)), .val (.int (1 : Int32)), .val (.int (0 : Int32)), .unset] [(.int x1)])
  refine Fin.go (fun _ k => XS.istore X0.here hx rfl (hb hby d16_13) rfl (l' := #[.val (.ref b), .val (.int (0 : Int32)), .val (.ref d), .val (.int (0 : Int32)), .val (.int (1 : Int32)), .val (.int (0 : Int32)), .val (.int x1)]) rfl k) ?_
  refine Fin.go (fun _ k => XS.iload X0.here hx rfl (hb hby d16_15) rfl k) ?_
  refine Fin.go (fun _ k => XS.sipush X0.here hx rfl (hb hby d16_17) k) ?_
  refine Fin.go (fun _ k => XS.icmpYes X0.here hx rfl (pc0 := 20) (pc' := 26) rfl (hb hby d16_20) rfl (XT.ii_le_t hp1) (by decide) (by decide) k) ?_
  show Fin _ p e below s _ _ _ s₁ (mkF m 26 #[.val (.ref b), .val (.int (0 : Int32)), .val (.ref d), .val (.int (0 : Int32)), .val (.int (1 : Int32)), .val (.int (0 : Int32)), .val (.int x1)] [])
  refine Fin.go (fun _ k => XS.aloadN X0.here hx rfl (hb hby d16_26) rfl rfl k) ?_
  refine Fin.go (fun _ k => XS.iloadN X0.here hx rfl (hb hby d16_27) rfl k) ?_
  refine Fin.go (fun _ k => XS.iload X0.here hx rfl (hb hby d16_28) rfl k) ?_
  refine Fin.go (fun _ k => XT.i2b X0.here hx rfl (hb hby d16_30) rfl k) ?_
  show Fin _ p e below s _ _ _ s₁ (mkF m 31 #[.val (.ref b), .val (.int (0 : Int32)), .val (.ref d), .val (.int (0 : Int32)), .val (.int (1 : Int32)), .val (.int (0 : Int32)), .val (.int x1)] [(.int ((Int32.toInt8 x1).toInt32)), (.int (0 : Int32)), (.ref d)])
  obtain ⟨c12, B12, q12, S12, M12, H12, G12⟩ := id VD
  obtain ⟨T12, h12, X12, e12, W12, st12⟩ := stB X0 hx hZ e0 B12 (j := (0 : Int32)) (inb_of S12 ⟨(by decide : ¬ ((0 : Int32) < (0 : Int32))), (by decide : (0 : Int32) < (1 : Int32))⟩) (g := (mkF m 31 #[.val (.ref b), .val (.int (0 : Int32)), .val (.ref d), .val (.int (0 : Int32)), .val (.int (1 : Int32)), .val (.int (0 : Int32)), .val (.int x1)] [(.int ((Int32.toInt8 x1).toInt32)), (.int (0 : Int32)), (.ref d)])) rfl rfl (hb hby d16_31)
  refine Fin.go st12 ?_
  have V12 : Arv Z h12 d kd .byte (1 : Int32) [(.int ((Int32.toInt8 x1).toInt32))] (.int (0 : Int32)) := (by have q : Arv Z h12 d kd .byte (1 : Int32) [(.int (nar .byte ((Int32.toInt8 x1).toInt32)))] (.int (0 : Int32)) := (Arv.set B12 q12 S12 M12 H12 G12 (fits_nar_byte _) W12 0 rfl (Nat.le_of_ble_eq_true rfl)); rwa [nar_b8] at q)
  have N12 := Fr.snoc X12 N0 nd
  have O12 := O.wr W12 nd
  have K12 := K0.wr W12 (Or.inl (List.mem_of_getElem? (i := 0) rfl))
  show Fin _ p e below s _ _ _ T12 (mkF m 32 #[.val (.ref b), .val (.int (0 : Int32)), .val (.ref d), .val (.int (0 : Int32)), .val (.int (1 : Int32)), .val (.int (0 : Int32)), .val (.int x1)] [])
  refine Fin.go (fun _ k => XS.iinc X12.here hx rfl (hb hby d16_32) rfl (l' := #[.val (.ref b), .val (.int ((0 : Int32) + (1 : Int32))), .val (.ref d), .val (.int (0 : Int32)), .val (.int (1 : Int32)), .val (.int (0 : Int32)), .val (.int x1)]) rfl k) ?_
  refine Fin.go (fun _ k => XS.iinc X12.here hx rfl (hb hby d16_35) rfl (l' := #[.val (.ref b), .val (.int ((0 : Int32) + (1 : Int32))), .val (.ref d), .val (.int ((0 : Int32) + (1 : Int32))), .val (.int (1 : Int32)), .val (.int (0 : Int32)), .val (.int x1)]) rfl k) ?_
  refine Fin.go (fun _ k => XS.iinc X12.here hx rfl (hb hby d16_38) rfl (l' := #[.val (.ref b), .val (.int ((0 : Int32) + (1 : Int32))), .val (.ref d), .val (.int ((0 : Int32) + (1 : Int32))), .val (.int (1 : Int32)), .val (.int ((0 : Int32) + (1 : Int32))), .val (.int x1)]) rfl k) ?_
  refine Fin.go (fun _ k => XS.goto X12.here hx rfl (pc0 := 41) (pc' := 3) rfl (hb hby d16_41) (by decide) (by decide) k) ?_
  show Fin _ p e below s _ _ _ T12 (mkF m 3 #[.val (.ref b), .val (.int ((0 : Int32) + (1 : Int32))), .val (.ref d), .val (.int ((0 : Int32) + (1 : Int32))), .val (.int (1 : Int32)), .val (.int ((0 : Int32) + (1 : Int32))), .val (.int x1)] [])
  refine Fin.go (fun _ k => XS.iload X12.here hx rfl (hb hby d16_3) rfl k) ?_
  refine Fin.go (fun _ k => XS.iload X12.here hx rfl (hb hby d16_5) rfl k) ?_
  refine Fin.go (fun _ k => XS.icmpYes X12.here hx rfl (pc0 := 7) (pc' := 44) rfl (hb hby d16_7) rfl (XT.ii_ge_t (by decide)) (by decide) (by decide) k) ?_
  show Fin _ p e below s _ _ _ T12 (mkF m 44 #[.val (.ref b), .val (.int ((0 : Int32) + (1 : Int32))), .val (.ref d), .val (.int ((0 : Int32) + (1 : Int32))), .val (.int (1 : Int32)), .val (.int ((0 : Int32) + (1 : Int32))), .val (.int x1)] [])
  refine Fin.go (fun _ k => XS.iload X12.here hx rfl (hb hby d16_44) rfl k) ?_
  exact Fin.leaveN X12 e12 hlk (v := some (.int (1 : Int32))) (fun h => by rw [hret] at h; cases h) (by decide) (by decide) ⟨rfl, N12, K12, V12⟩ (fun fs hr => retI X12 hx hret (hb hby d16_46) hr)
set_option maxRecDepth 65536 in
set_option maxHeartbeats 40000000 in
theorem rmCmpA1 (l : Launch) (Z : State) (a0 : Array Value) (hw : ∀ d ∈ tables_1, d.before a0 Z = true) (n0 : Nat) (h0 : Heap) (O : Old Z n0 h0) (b : Addr) (kb : ClassId) (x1 : Int32) (VB : Arv Z h0 b kb .char (1 : Int32) [(.int x1)] (.int (0 : Int32))) (hp1 : ¬ (255 : Int32) < x1) :
    ConW FrameEnd l Z [] (⟨"java/lang/StringUTF16", "compress", "([CII)[B"⟩ : MethodName) jdk_52_method_16_code 6 (some (.array .byte)) ({ frames := 1, cells := 1, slots := 1, locals := 18 } : Room) #[(.ref b), (.int (0 : Int32)), (.int (1 : Int32))] h0 (fun v h L => ∃ d kd, v = some (.ref d) ∧ Fr n0 L ∧ Keep h0 h [] ∧ Arv Z h d kd .byte (1 : Int32) [(.int ((Int32.toInt8 x1).toInt32))] (.int (0 : Int32)) ∧ h0.size ≤ d) := by
  refine conOf (plainFor_of_name pn_java_lang_StringUTF16) ?_
  intro p e s m below mth cc s₁ X0 hx hby hml hown hnm hret hlk hZ e0
  have N0 := Fr.nil n0
  have K0 := Keep.refl h0 ([] : List Addr)
  refine Fin.came (castTop (t := _) (by first | (simp [entryFrame, mkF, argsToLocals, Value.category]; done) | rfl) (Steps.refl _) : Steps p.tables e below (s₁.setTop (entryFrame m #[(.ref b), (.int (0 : Int32)), (.int (1 : Int32))] 6)) (s₁.setTop (mkF m 0 #[.val (.ref b), .val (.int (0 : Int32)), .val (.int (1 : Int32)), .unset, .unset, .unset] []))) ?_
  show Fin _ p e below s _ _ _ s₁ (mkF m 0 #[.val (.ref b), .val (.int (0 : Int32)), .val (.int (1 : Int32)), .unset, .unset, .unset] [])
  refine Fin.go (fun _ k => XS.iloadN X0.here hx rfl (hb hby d15_0) rfl k) ?_
  obtain ⟨T11, h11, k11, X11, e11, E11, A11, st11⟩ := newP X0 hx hZ (aty := .byte) (hw _ w_21) e0 (g := (mkF m 1 #[.val (.ref b), .val (.int (0 : Int32)), .val (.int (1 : Int32)), .unset, .unset, .unset] [(.int (1 : Int32))])) rfl (hb hby d15_1) rfl (by decide : ¬ ((1 : Int32) < (0 : Int32))) (cap := 1) (by decide) (by decide) (by decide) (by decide)
  obtain ⟨a11, g11⟩ : ∃ z, z = h0.size := ⟨_, rfl⟩
  rw [← g11] at A11 st11
  refine Fin.go st11 ?_
  have O11 := O.ext E11
  have K11 := K0.ext E11
  have n11 : n0 ≤ a11 := by have := O.2.1; have := O.1; omega
  have z11 : h0.size ≤ a11 := by have := K0.1; omega
  have V11 : Arv Z h11 a11 k11 .byte (1 : Int32) [(.int (0 : Int32))] (.int (0 : Int32)) := (Arv.new A11 (by decide)).pad (pad_rep [] (.int (0 : Int32)) 1)
  show Fin _ p e below s _ _ _ T11 (mkF m 3 #[.val (.ref b), .val (.int (0 : Int32)), .val (.int (1 : Int32)), .unset, .unset, .unset] [(.ref a11)])
  refine Fin.go (fun _ k => XS.astoreN X11.here hx rfl (hb hby d15_3) rfl rfl (l' := #[.val (.ref b), .val (.int (0 : Int32)), .val (.int (1 : Int32)), .val (.ref a11), .unset, .unset]) rfl k) ?_
  refine Fin.go (fun _ k => XS.aloadN X11.here hx rfl (hb hby d15_4) rfl rfl k) ?_
  refine Fin.go (fun _ k => XS.iloadN X11.here hx rfl (hb hby d15_5) rfl k) ?_
  refine Fin.go (fun _ k => XS.aloadN X11.here hx rfl (hb hby d15_6) rfl rfl k) ?_
  show Fin _ p e below s _ _ _ T11 (mkF m 7 #[.val (.ref b), .val (.int (0 : Int32)), .val (.int (1 : Int32)), .val (.ref a11), .unset, .unset] [(.ref a11), (.int (0 : Int32)), (.ref b)])
  refine Fin.go (fun _ k => XS.iconst X11.here hx rfl (hb hby d15_7) k) ?_
  refine Fin.go (fun _ k => XS.iloadN X11.here hx rfl (hb hby d15_8) rfl k) ?_
  obtain ⟨v12, T12, L12, X12, q12, st12⟩ := callSt X11 hx hZ (y := (⟨"java/lang/StringUTF16", "compress", "([CI[BII)I"⟩ : MethodName)) hown (hw _ w_112) (hw _ w_113) (hw _ w_110) (hw _ w_114) (by decide) (W := 0) (rmCmpB1 l Z a0 hw n0 h11 O11 b a11 kb k11 x1 (VB.ext E11) V11 hp1 n11 (Nat.ne_of_lt (Nat.lt_of_lt_of_eq VB.lt g11.symm))) e11 (by decide) (by decide) (by decide) (by decide) (g := (mkF m 9 #[.val (.ref b), .val (.int (0 : Int32)), .val (.int (1 : Int32)), .val (.ref a11), .unset, .unset] [(.int (1 : Int32)), (.int (0 : Int32)), (.ref a11), (.int (0 : Int32)), (.ref b)])) rfl (by rw [hml]; rfl) (argsL := [(.ref b), (.int (0 : Int32)), (.ref a11), (.int (0 : Int32)), (.int (1 : Int32))]) (rest := []) (lenOf pd_oACIABIIcI rfl) rfl (by show 2 * 0 + _ ≤ _; exact Nat.le_of_eq rfl) (hb hby d15_9)
  obtain ⟨rfl, Nq12, Kq12, V12⟩ := q12
  have N12 := Fr.app N0 Nq12
  have O12 := O11.keep Kq12 (allS n11 all0)
  have K12 := K11.trans Kq12 (allS (Or.inr z11) all0)
  refine Fin.go st12 ?_
  have V12_b := ((VB.ext E11).keep Kq12 (ninS (Nat.ne_of_lt (Nat.lt_of_lt_of_eq VB.lt g11.symm)) nin0))
  show Fin _ p e below s _ _ _ T12 (mkF m 12 #[.val (.ref b), .val (.int (0 : Int32)), .val (.int (1 : Int32)), .val (.ref a11), .unset, .unset] [(.int (1 : Int32))])
  refine Fin.go (fun _ k => XS.istore X12.here hx rfl (hb hby d15_12) rfl (l' := #[.val (.ref b), .val (.int (0 : Int32)), .val (.int (1 : Int32)), .val (.ref a11), .val (.int (1 : Int32)), .unset]) rfl k) ?_
  refine Fin.go (fun _ k => XS.iload X12.here hx rfl (hb hby d15_14) rfl k) ?_
  refine Fin.go (fun _ k => XS.iloadN X12.here hx rfl (hb hby d15_16) rfl k) ?_
  refine Fin.go (fun _ k => XS.icmpYes X12.here hx rfl (pc0 := 17) (pc' := 57) rfl (hb hby d15_17) rfl (XT.ii_eq_t (by decide)) (by decide) (by decide) k) ?_
  show Fin _ p e below s _ _ _ T12 (mkF m 57 #[.val (.ref b), .val (.int (0 : Int32)), .val (.int (1 : Int32)), .val (.ref a11), .val (.int (1 : Int32)), .unset] [])
  refine Fin.go (fun _ k => XS.aloadN X12.here hx rfl (hb hby d15_57) rfl rfl k) ?_
  exact Fin.leaveN X12 (rfl : T12.heap = T12.heap) hlk (v := some (.ref a11)) (fun h => by rw [hret] at h; cases h) (by decide) (by decide) ⟨a11, k11, rfl, N12, K12, V12, z11⟩ (fun fs hr => retOut X12 hx hret rfl (Or.inr (Or.inr (Or.inr (Or.inr ⟨rfl, rfl, rfl⟩)))) (hb hby d15_58) hr)
set_option maxRecDepth 65536 in
set_option maxHeartbeats 40000000 in
theorem rmCod1 (l : Launch) (Z : State) (a0 : Array Value) (hw : ∀ d ∈ tables_1, d.before a0 Z = true) (n0 : Nat) (h0 : Heap) (O : Old Z n0 h0) (d : Addr) (kd : ClassId) (x1 : Int32) (VD : Arv Z h0 d kd .byte (1 : Int32) [(.int x1)] (.int (0 : Int32))) :
    ConW FrameEnd l Z [] (⟨"java/lang/StringUTF16", "coderFromArrayLen", "([BI)B"⟩ : MethodName) jdk_52_method_15_code 2 (some .byte) ({ frames := 0, cells := 0, slots := 0, locals := 0 } : Room) #[(.ref d), (.int (1 : Int32))] h0 (Pure h0 (some (.int (0 : Int32)))) := by
  refine conOf (plainFor_of_name pn_java_lang_StringUTF16) ?_
  intro p e s m below mth cc s₁ X0 hx hby hml hown hnm hret hlk hZ e0
  have N0 := Fr.nil n0
  refine Fin.came (castTop (t := _) (by first | (simp [entryFrame, mkF, argsToLocals, Value.category]; done) | rfl) (Steps.refl _) : Steps p.tables e below (s₁.setTop (entryFrame m #[(.ref d), (.int (1 : Int32))] 2)) (s₁.setTop (mkF m 0 #[.val (.ref d), .val (.int (1 : Int32))] []))) ?_
  show Fin _ p e below s _ _ _ s₁ (mkF m 0 #[.val (.ref d), .val (.int (1 : Int32))] [])
  refine Fin.go (fun _ k => XS.iloadN X0.here hx rfl (hb hby d17_0) rfl k) ?_
  refine Fin.go (fun _ k => XS.aloadN X0.here hx rfl (hb hby d17_1) rfl rfl k) ?_
  obtain ⟨c11, B11, q11, S11, M11, H11, G11⟩ := id VD
  refine Fin.go (fun _ k => X0.arraylength hx (by rw [e0]; exact B11.1) (State.isArrayOf_alike hZ.alike B11.2.1) (g := (mkF m 2 #[.val (.ref d), .val (.int (1 : Int32))] [(.ref d), (.int (1 : Int32))])) rfl rfl (hb hby d17_2) _ k) ?_
  rw [len_of S11 M11]
  show Fin _ p e below s _ _ _ s₁ (mkF m 3 #[.val (.ref d), .val (.int (1 : Int32))] [(.int (1 : Int32)), (.int (1 : Int32))])
  refine Fin.go (fun _ k => XS.isub X0.here hx rfl (hb hby d17_3) rfl k) ?_
  refine Fin.go (fun _ k => XS.bipush X0.here hx rfl (hb hby d17_4) k) ?_
  refine Fin.go (fun _ k => XT.iushr X0.here hx rfl (hb hby d17_6) rfl k) ?_
  refine Fin.go (fun _ k => XT.i2b X0.here hx rfl (hb hby d17_7) rfl k) ?_
  show Fin _ p e below s _ _ _ s₁ (mkF m 8 #[.val (.ref d), .val (.int (1 : Int32))] [(.int ((Int32.toInt8 (XT.ushr ((1 : Int32) - (1 : Int32)) (31 : Int32))).toInt32))])
  exact Fin.leaveN X0 e0 hlk (v := some (.int (nar .byte ((Int32.toInt8 (XT.ushr ((1 : Int32) - (1 : Int32)) (31 : Int32))).toInt32)))) (fun h => by rw [hret] at h; cases h) (by decide) (by decide) ⟨by decide +kernel, rfl, rfl⟩ (fun fs hr => retN X0 hx (t := .byte) hret (by simp) (hb hby d17_8) hr)
set_option maxRecDepth 65536 in
set_option maxHeartbeats 40000000 in
theorem rmStrV1 (l : Launch) (Z : State) (a0 : Array Value) (hw : ∀ d ∈ tables_1, d.before a0 Z = true) (n0 : Nat) (h0 : Heap) (O : Old Z n0 h0) (a b : Addr) (kb : ClassId) (x1 : Int32) (cs : Int32) (S_cs : Sta Z Z.heap "java/lang/String" "COMPACT_STRINGS" "Z" (.int cs)) (hcs : ¬ cs = 0) (VB : Arv Z h0 b kb .char (1 : Int32) [(.int x1)] (.int (0 : Int32))) (A : Exa Z h0 a "java/lang/String") (F1 : Fld Z h0 a "java/lang/String" "coder" "B" (.int (0 : Int32))) (F2 : Fld Z h0 a "java/lang/String" "value" "[B" .null) (hp1 : ¬ (255 : Int32) < x1) (na : n0 ≤ a) (nba : b ≠ a) :
    ConW FrameEnd l Z [] (⟨"java/lang/String", "<init>", "([CIILjava/lang/Void;)V"⟩ : MethodName) jdk_42_method_149_code 6 none ({ frames := 2, cells := 1, slots := 1, locals := 35 } : Room) #[(.ref a), (.ref b), (.int (0 : Int32)), (.int (1 : Int32)), .null] h0 (fun v h L => v = none ∧ Fr n0 L ∧ Keep h0 h [a] ∧ Exa Z h a "java/lang/String" ∧ Fld Z h a "java/lang/String" "coder" "B" (.int (0 : Int32)) ∧ ∃ d kd, Fld Z h a "java/lang/String" "value" "[B" (.ref d) ∧ Arv Z h d kd .byte (1 : Int32) [(.int ((Int32.toInt8 x1).toInt32))] (.int (0 : Int32)) ∧ h0.size ≤ d) := by
  refine conOf (plainFor_of_name pn_java_lang_String) ?_
  intro p e s m below mth cc s₁ X0 hx hby hml hown hnm hret hlk hZ e0
  have N0 := Fr.nil n0
  have K0 := Keep.refl h0 ([a] : List Addr)
  refine Fin.came (castTop (t := _) (by first | (simp [entryFrame, mkF, argsToLocals, Value.category]; done) | rfl) (Steps.refl _) : Steps p.tables e below (s₁.setTop (entryFrame m #[(.ref a), (.ref b), (.int (0 : Int32)), (.int (1 : Int32)), .null] 6)) (s₁.setTop (mkF m 0 #[.val (.ref a), .val (.ref b), .val (.int (0 : Int32)), .val (.int (1 : Int32)), .val .null, .unset] []))) ?_
  show Fin _ p e below s _ _ _ s₁ (mkF m 0 #[.val (.ref a), .val (.ref b), .val (.int (0 : Int32)), .val (.int (1 : Int32)), .val .null, .unset] [])
  refine Fin.go (fun _ k => XS.aloadN X0.here hx rfl (hb hby d3_0) rfl rfl k) ?_
  obtain ⟨T11, X11, e11, st11⟩ := initO X0 hx hZ hown (hw _ w_17) (hw _ w_18) (hw _ w_19) e0 (g := (mkF m 1 #[.val (.ref a), .val (.ref b), .val (.int (0 : Int32)), .val (.int (1 : Int32)), .val .null, .unset] [(.ref a)])) rfl (by rw [hml]; rfl) rfl (hb hby d3_1) (by decide) (W := 0) (by show 2 * 0 + _ ≤ _; exact Nat.le_of_eq rfl) (by decide)
  refine Fin.go st11 ?_
  show Fin _ p e below s _ _ _ T11 (mkF m 4 #[.val (.ref a), .val (.ref b), .val (.int (0 : Int32)), .val (.int (1 : Int32)), .val .null, .unset] [])
  refine Fin.go (fun _ k => XS.iloadN X11.here hx rfl (hb hby d3_4) rfl k) ?_
  refine Fin.go (fun _ k => XS.ifYes X11.here hx rfl (pc0 := 5) (pc' := 27) rfl (hb hby d3_5) rfl (XT.i0_ne_t (by decide)) (by decide) (by decide) k) ?_
  show Fin _ p e below s _ _ _ T11 (mkF m 27 #[.val (.ref a), .val (.ref b), .val (.int (0 : Int32)), .val (.int (1 : Int32)), .val .null, .unset] [])
  obtain ⟨T12, X12, e12, st12⟩ := getS2 X11 hx hZ hown (host := "") (Or.inl (hw _ w_103)) Via.refl e11 (S_cs.ext O.2) (g := (mkF m 27 #[.val (.ref a), .val (.ref b), .val (.int (0 : Int32)), .val (.int (1 : Int32)), .val .null, .unset] [])) rfl (hb hby d3_27)
  refine Fin.go st12 ?_
  show Fin _ p e below s _ _ _ T12 (mkF m 30 #[.val (.ref a), .val (.ref b), .val (.int (0 : Int32)), .val (.int (1 : Int32)), .val .null, .unset] [(.int cs)])
  refine Fin.go (fun _ k => XS.ifNo X12.here hx rfl (hb hby d3_30) rfl (XT.i0_eq_f hcs) k) ?_
  show Fin _ p e below s _ _ _ T12 (mkF m 33 #[.val (.ref a), .val (.ref b), .val (.int (0 : Int32)), .val (.int (1 : Int32)), .val .null, .unset] [])
  refine Fin.go (fun _ k => XS.aloadN X12.here hx rfl (hb hby d3_33) rfl rfl k) ?_
  refine Fin.go (fun _ k => XS.iloadN X12.here hx rfl (hb hby d3_34) rfl k) ?_
  refine Fin.go (fun _ k => XS.iloadN X12.here hx rfl (hb hby d3_35) rfl k) ?_
  obtain ⟨v13, T13, L13, X13, q13, st13⟩ := callSt X12 hx hZ (y := (⟨"java/lang/StringUTF16", "compress", "([CII)[B"⟩ : MethodName)) hown (hw _ w_108) (hw _ w_109) (hw _ w_110) (hw _ w_111) (by decide) (W := 0) (rmCmpA1 l Z a0 hw n0 h0 O b kb x1 VB hp1) e12 (by decide) (by decide) (by decide) (by decide) (g := (mkF m 36 #[.val (.ref a), .val (.ref b), .val (.int (0 : Int32)), .val (.int (1 : Int32)), .val .null, .unset] [(.int (1 : Int32)), (.int (0 : Int32)), (.ref b)])) rfl (by rw [hml]; rfl) (argsL := [(.ref b), (.int (0 : Int32)), (.int (1 : Int32))]) (rest := []) (lenOf pd_oACIIcAB rfl) rfl (by show 2 * 0 + _ ≤ _; exact Nat.le_of_eq rfl) (hb hby d3_36)
  obtain ⟨d13, kd13, rfl, Nq13, Kq13, V13, zd13⟩ := q13
  have N13 := Fr.app N0 Nq13
  have O13 := O.keep Kq13 all0
  have K13 := K0.trans Kq13 all0
  refine Fin.go st13 ?_
  show Fin _ p e below s _ _ _ T13 (mkF m 39 #[.val (.ref a), .val (.ref b), .val (.int (0 : Int32)), .val (.int (1 : Int32)), .val .null, .unset] [(.ref d13)])
  have nzd13 : n0 ≤ d13 := Nat.le_trans (by have := O.1; have := O.2.1; omega) zd13
  have hzd13 : h0.size ≤ d13 := Nat.le_trans K0.1 zd13
  refine Fin.go (fun _ k => XS.astore X13.here hx rfl (hb hby d3_39) rfl rfl (l' := #[.val (.ref a), .val (.ref b), .val (.int (0 : Int32)), .val (.int (1 : Int32)), .val .null, .val (.ref d13)]) rfl k) ?_
  refine Fin.go (fun _ k => XS.aloadN X13.here hx rfl (hb hby d3_41) rfl rfl k) ?_
  refine Fin.go (fun _ k => XS.aload X13.here hx rfl (hb hby d3_42) rfl rfl k) ?_
  refine Fin.go (fun _ k => XS.iloadN X13.here hx rfl (hb hby d3_44) rfl k) ?_
  show Fin _ p e below s _ _ _ T13 (mkF m 45 #[.val (.ref a), .val (.ref b), .val (.int (0 : Int32)), .val (.int (1 : Int32)), .val .null, .val (.ref d13)] [(.int (1 : Int32)), (.ref d13), (.ref a)])
  obtain ⟨v14, T14, L14, X14, q14, st14⟩ := callSt X13 hx hZ (y := (⟨"java/lang/StringUTF16", "coderFromArrayLen", "([BI)B"⟩ : MethodName)) hown (hw _ w_115) (hw _ w_116) (hw _ w_110) (hw _ w_117) (by decide) (W := 1) (rmCod1 l Z a0 hw n0 T13.heap O13 d13 kd13 ((Int32.toInt8 x1).toInt32) V13) (rfl : T13.heap = T13.heap) (by decide) (by decide) (by decide) (by decide) (g := (mkF m 45 #[.val (.ref a), .val (.ref b), .val (.int (0 : Int32)), .val (.int (1 : Int32)), .val .null, .val (.ref d13)] [(.int (1 : Int32)), (.ref d13), (.ref a)])) rfl (by rw [hml]; rfl) (argsL := [(.ref d13), (.int (1 : Int32))]) (rest := [(.ref a)]) (lenOf pd_oABIcB rfl) rfl (by show 2 * 0 + _ ≤ _; exact Nat.le_of_eq rfl) (hb hby d3_45)
  obtain ⟨rfl, e14, rfl⟩ := q14
  have N14 := Fr.app N13 (Fr.nil n0)
  refine Fin.go st14 ?_
  show Fin _ p e below s _ _ _ T14 (mkF m 48 #[.val (.ref a), .val (.ref b), .val (.int (0 : Int32)), .val (.int (1 : Int32)), .val .null, .val (.ref d13)] [(.int (0 : Int32)), (.ref a)])
  obtain ⟨T15, h15, X15, e15, W15, st15⟩ := putF X14 hx hZ hown (host := "") (Or.inl (hw _ w_27)) Via.refl e14 (F1.keep Kq13 nin0) (A.keep Kq13) (Or.inr ⟨(hw _ w_23), rfl, hnm⟩) (hw _ w_7) (ty := .byte) (by decide) rfl rfl (g := (mkF m 48 #[.val (.ref a), .val (.ref b), .val (.int (0 : Int32)), .val (.int (1 : Int32)), .val .null, .val (.ref d13)] [(.int (0 : Int32)), (.ref a)])) rfl rfl (hb hby d3_48)
  refine Fin.go st15 ?_
  have N15 := Fr.snoc X15 N14 na
  have O15 := O13.wr W15 na
  have K15 := K13.wr W15 (Or.inl (List.mem_of_getElem? (i := 0) rfl))
  have F15_a_value := ((F2.keep Kq13 nin0).other W15 (Or.inr (slot_ne (Or.inr (hw _ w_22)) (Or.inr (hw _ w_23)) (by decide) (t := (.array .byte)) (t' := .byte) (by decide) (by decide))))
  have V15_d13 := (V13.other W15 (Ne.symm (Nat.ne_of_lt (Nat.lt_of_lt_of_le F2.lt zd13))))
  show Fin _ p e below s _ _ _ T15 (mkF m 51 #[.val (.ref a), .val (.ref b), .val (.int (0 : Int32)), .val (.int (1 : Int32)), .val .null, .val (.ref d13)] [])
  refine Fin.go (fun _ k => XS.aloadN X15.here hx rfl (hb hby d3_51) rfl rfl k) ?_
  refine Fin.go (fun _ k => XS.aload X15.here hx rfl (hb hby d3_52) rfl rfl k) ?_
  obtain ⟨T16, h16, X16, e16, W16, st16⟩ := putF X15 hx hZ hown (host := "") (Or.inl (hw _ w_26)) Via.refl e15 F15_a_value ((A.keep Kq13).wr W15) (Or.inr ⟨(hw _ w_22), rfl, hnm⟩) (hw _ w_7) (ty := (.array .byte)) (by decide) rfl rfl (g := (mkF m 54 #[.val (.ref a), .val (.ref b), .val (.int (0 : Int32)), .val (.int (1 : Int32)), .val .null, .val (.ref d13)] [(.ref d13), (.ref a)])) rfl rfl (hb hby d3_54)
  refine Fin.go st16 ?_
  have N16 := Fr.snoc X16 N15 na
  have O16 := O15.wr W16 na
  have K16 := K15.wr W16 (Or.inl (List.mem_of_getElem? (i := 0) rfl))
  have F16_a_coder := (((F1.keep Kq13 nin0).same W15).other W16 (Or.inr (slot_ne (Or.inr (hw _ w_23)) (Or.inr (hw _ w_22)) (by decide) (t := .byte) (t' := (.array .byte)) (by decide) (by decide))))
  have V16_d13 := (V15_d13.other W16 (Ne.symm (Nat.ne_of_lt (Nat.lt_of_lt_of_le F2.lt zd13))))
  show Fin _ p e below s _ _ _ T16 (mkF m 57 #[.val (.ref a), .val (.ref b), .val (.int (0 : Int32)), .val (.int (1 : Int32)), .val .null, .val (.ref d13)] [])
  exact Fin.leaveN X16 e16 hlk (v := none) (fun _ => rfl) (by decide) (by decide) ⟨rfl, N16, K16, (((A.keep Kq13).wr W15).wr W16), F16_a_coder, d13, kd13, (F15_a_value.same W16), V16_d13, hzd13⟩ (fun fs hr => X16.returnOut hx hret (hb hby d3_57) hr)
set_option maxRecDepth 65536 in
set_option maxHeartbeats 40000000 in
theorem rmStr1 (l : Launch) (Z : State) (a0 : Array Value) (hw : ∀ d ∈ tables_1, d.before a0 Z = true) (n0 : Nat) (h0 : Heap) (O : Old Z n0 h0) (a b : Addr) (kb : ClassId) (x1 : Int32) (cs : Int32) (S_cs : Sta Z Z.heap "java/lang/String" "COMPACT_STRINGS" "Z" (.int cs)) (hcs : ¬ cs = 0) (VB : Arv Z h0 b kb .char (1 : Int32) [(.int x1)] (.int (0 : Int32))) (A : Exa Z h0 a "java/lang/String") (F1 : Fld Z h0 a "java/lang/String" "coder" "B" (.int (0 : Int32))) (F2 : Fld Z h0 a "java/lang/String" "value" "[B" .null) (hp1 : ¬ (255 : Int32) < x1) (na : n0 ≤ a) (nba : b ≠ a) :
    ConW FrameEnd l Z [] (⟨"java/lang/String", "<init>", "([C)V"⟩ : MethodName) jdk_42_method_3_code 2 none ({ frames := 3, cells := 1, slots := 1, locals := 52 } : Room) #[(.ref a), (.ref b)] h0 (fun v h L => v = none ∧ Fr n0 L ∧ Keep h0 h [a] ∧ Exa Z h a "java/lang/String" ∧ Fld Z h a "java/lang/String" "coder" "B" (.int (0 : Int32)) ∧ ∃ d kd, Fld Z h a "java/lang/String" "value" "[B" (.ref d) ∧ Arv Z h d kd .byte (1 : Int32) [(.int ((Int32.toInt8 x1).toInt32))] (.int (0 : Int32)) ∧ h0.size ≤ d) := by
  refine conOf (plainFor_of_name pn_java_lang_String) ?_
  intro p e s m below mth cc s₁ X0 hx hby hml hown hnm hret hlk hZ e0
  have N0 := Fr.nil n0
  have K0 := Keep.refl h0 ([a] : List Addr)
  refine Fin.came (castTop (t := _) (by first | (simp [entryFrame, mkF, argsToLocals, Value.category]; done) | rfl) (Steps.refl _) : Steps p.tables e below (s₁.setTop (entryFrame m #[(.ref a), (.ref b)] 2)) (s₁.setTop (mkF m 0 #[.val (.ref a), .val (.ref b)] []))) ?_
  show Fin _ p e below s _ _ _ s₁ (mkF m 0 #[.val (.ref a), .val (.ref b)] [])
  refine Fin.go (fun _ k => XS.aloadN X0.here hx rfl (hb hby d2_0) rfl rfl k) ?_
  refine Fin.go (fun _ k => XS.aloadN X0.here hx rfl (hb hby d2_1) rfl rfl k) ?_
  refine Fin.go (fun _ k => XS.iconst X0.here hx rfl (hb hby d2_2) k) ?_
  refine Fin.go (fun _ k => XS.aloadN X0.here hx rfl (hb hby d2_3) rfl rfl k) ?_
  show Fin _ p e below s _ _ _ s₁ (mkF m 4 #[.val (.ref a), .val (.ref b)] [(.ref b), (.int (0 : Int32)), (.ref b), (.ref a)])
  obtain ⟨c11, B11, q11, S11, M11, H11, G11⟩ := id VB
  refine Fin.go (fun _ k => X0.arraylength hx (by rw [e0]; exact B11.1) (State.isArrayOf_alike hZ.alike B11.2.1) (g := (mkF m 4 #[.val (.ref a), .val (.ref b)] [(.ref b), (.int (0 : Int32)), (.ref b), (.ref a)])) rfl rfl (hb hby d2_4) _ k) ?_
  rw [len_of S11 M11]
  show Fin _ p e below s _ _ _ s₁ (mkF m 5 #[.val (.ref a), .val (.ref b)] [(.int (1 : Int32)), (.int (0 : Int32)), (.ref b), (.ref a)])
  refine Fin.go (fun _ k => XS.aconstNull X0.here hx rfl (hb hby d2_5) k) ?_
  obtain ⟨v12, T12, L12, X12, q12, st12⟩ := callCt X0 hx hZ (y := (⟨"java/lang/String", "<init>", "([CIILjava/lang/Void;)V"⟩ : MethodName)) rfl hown (hw _ w_13) (hw _ w_14) (hw _ w_8) (hw _ w_16) (by decide) (W := 0) (rmStrV1 l Z a0 hw n0 h0 O a b kb x1 cs S_cs hcs VB A F1 F2 hp1 na nba) e0 (by decide) (by decide) (by decide) (by decide) (g := (mkF m 6 #[.val (.ref a), .val (.ref b)] [.null, (.int (1 : Int32)), (.int (0 : Int32)), (.ref b), (.ref a)])) rfl (by rw [hml]; rfl) (a := a) (argsL := [(.ref b), (.int (0 : Int32)), (.int (1 : Int32)), .null]) (rest := []) (lenOf pd_oACIILjava_lang_Void_cV rfl) rfl (by show 2 * 0 + _ ≤ _; exact Nat.le_of_eq rfl) (hb hby d2_6)
  obtain ⟨rfl, Nq12, Kq12, A12, C12, d12, kd12, F12, V12, zd12⟩ := q12
  have N12 := Fr.app N0 Nq12
  have O12 := O.keep Kq12 (allS na all0)
  have K12 := K0.trans Kq12 (allS (Or.inl (List.mem_of_getElem? (i := 0) rfl)) all0)
  refine Fin.go st12 ?_
  show Fin _ p e below s _ _ _ T12 (mkF m 9 #[.val (.ref a), .val (.ref b)] [])
  exact Fin.leaveN X12 (rfl : T12.heap = T12.heap) hlk (v := none) (fun _ => rfl) (by decide) (by decide) ⟨rfl, N12, K12, A12, C12, d12, kd12, F12, V12, zd12⟩ (fun fs hr => X12.returnOut hx hret (hb hby d2_9) hr)
set_option maxRecDepth 65536 in
set_option maxHeartbeats 40000000 in
theorem rmCmpB2 (l : Launch) (Z : State) (a0 : Array Value) (hw : ∀ d ∈ tables_1, d.before a0 Z = true) (n0 : Nat) (h0 : Heap) (O : Old Z n0 h0) (b d : Addr) (kb kd : ClassId) (x1 x2 : Int32) (VB : Arv Z h0 b kb .char (2 : Int32) [(.int x1), (.int x2)] (.int (0 : Int32))) (VD : Arv Z h0 d kd .byte (2 : Int32) [(.int (0 : Int32)), (.int (0 : Int32))] (.int (0 : Int32))) (hp1 : ¬ (255 : Int32) < x1) (hp2 : ¬ (255 : Int32) < x2) (nd : n0 ≤ d) (nbd : b ≠ d) :
    ConW FrameEnd l Z [] (⟨"java/lang/StringUTF16", "compress", "([CI[BII)I"⟩ : MethodName) jdk_52_method_21_code 7 (some .int) ({ frames := 0, cells := 0, slots := 0, locals := 0 } : Room) #[(.ref b), (.int (0 : Int32)), (.ref d), (.int (0 : Int32)), (.int (2 : Int32))] h0 (fun v h L => v = some (.int (2 : Int32)) ∧ Fr n0 L ∧ Keep h0 h [d] ∧ Arv Z h d kd .byte (2 : Int32) [(.int ((Int32.toInt8 x1).toInt32)), (.int ((Int32.toInt8 x2).toInt32))] (.int (0 : Int32))) := by
  refine conOf (plainFor_of_name pn_java_lang_StringUTF16) ?_
  intro p e s m below mth cc s₁ X0 hx hby hml hown hnm hret hlk hZ e0
  have N0 := Fr.nil n0
  have K0 := Keep.refl h0 ([d] : List Addr)
  refine Fin.came (castTop (t := _) (by first | (simp [entryFrame, mkF, argsToLocals, Value.category]; done) | rfl) (Steps.refl _) : Steps p.tables e below (s₁.setTop (entryFrame m #[(.ref b), (.int (0 : Int32)), (.ref d), (.int (0 : Int32)), (.int (2 : Int32))] 7)) (s₁.setTop (mkF m 0 #[.val (.ref b), .val (.int (0 : Int32)), .val (.ref d), .val (.int (0 : Int32)), .val (.int (2 : Int32)), .unset, .unset] []))) ?_
  show Fin _ p e below s _ _ _ s₁ (mkF m 0 #[.val (.ref b), .val (.int (0 : Int32)), .val (.ref d), .val (.int (0 : Int32)), .val (.int (2 : Int32)), .unset, .unset] [])
  refine Fin.go (fun _ k => XS.iconst X0.here hx rfl (hb hby d16_0) k) ?_
  refine Fin.go (fun _ k => XS.istore X0.here hx rfl (hb hby d16_1) rfl (l' := #[.val (.ref b), .val (.int (0 : Int32)), .val (.ref d), .val (.int (0 : Int32)), .val (.int (2 : Int32)), .val (.int (0 : Int32)), .unset]) rfl k) ?_
  refine Fin.go (fun _ k => XS.iload X0.here hx rfl (hb hby d16_3) rfl k) ?_
  refine Fin.go (fun _ k => XS.iload X0.here hx rfl (hb hby d16_5) rfl k) ?_
  show Fin _ p e below s _ _ _ s₁ (mkF m 7 #[.val (.ref b), .val (.int (0 : Int32)), .val (.ref d), .val (.int (0 : Int32)), .val (.int (2 : Int32)), .val (.int (0 : Int32)), .unset] [(.int (2 : Int32)), (.int (0 : Int32))])
  refine Fin.go (fun _ k => XS.icmpNo X0.here hx rfl (hb hby d16_7) rfl (XT.ii_ge_f (by decide)) k) ?_
  show Fin _ p e below s _ _ _ s₁ (mkF m 10 #[.val (.ref b), .val (.int (0 : Int32)), .val (.ref d), .val (.int (0 : Int32)), .val (.int (2 : Int32)), .val (.int (0 : Int32)), .unset] [])
  refine Fin.go (fun _ k => XS.aloadN X0.here hx rfl (hb hby d16_10) rfl rfl k) ?_
  refine Fin.go (fun _ k => XS.iloadN X0.here hx rfl (hb hby d16_11) rfl k) ?_
  obtain ⟨c11, B11, q11, S11, M11, H11, G11⟩ := id VB
  have i11 := inb_of S11 ⟨(by decide : ¬ ((0 : Int32) < (0 : Int32))), (by decide : (0 : Int32) < (2 : Int32))⟩
  refine Fin.go (fun _ k => X0.caload hx (j := (0 : Int32)) (v := (.int x1)) (by rw [e0]; exact B11.1) (State.isArrayOf_alike hZ.alike B11.2.1) B11.2.2 i11 (Has.at H11 i11 rfl) (g := (mkF m 12 #[.val (.ref b), .val (.int (0 : Int32)), .val (.ref d), .val (.int (0 : Int32)), .val (.int (2 : Int32)), .val (.int (0 : Int32)), .unset] [(.int (0 : Int32)), (.ref b)])) rfl rfl (hb hby d16_12) _ k) ?_
  show Fin _ p e below s _ _ _ s₁ (mkF m 13 #[.val (.ref b), .val (.int (0 : Int32)), .val (.ref d), .val (.int (0 : Int32)), .val (.int (2 : Int32)), .val (.int (0 : Int32)), .unset] [(.int x1)])
  refine Fin.go (fun _ k => XS.istore X0.here hx rfl (hb hby d16_13) rfl (l' := #[.val (.ref b), .val (.int (0 : Int32)), .val (.ref d), .val (.int (0 : Int32)), .val (.int (2 : Int32)), .val (.int (0 : Int32)), .val (.int x1)]) rfl k) ?_
  refine Fin.go (fun _ k => XS.iload X0.here hx rfl (hb hby d16_15) rfl k) ?_
  refine Fin.go (fun _ k => XS.sipush X0.here hx rfl (hb hby d16_17) k) ?_
  refine Fin.go (fun _ k => XS.icmpYes X0.here hx rfl (pc0 := 20) (pc' := 26) rfl (hb hby d16_20) rfl (XT.ii_le_t hp1) (by decide) (by decide) k) ?_
  show Fin _ p e below s _ _ _ s₁ (mkF m 26 #[.val (.ref b), .val (.int (0 : Int32)), .val (.ref d), .val (.int (0 : Int32)), .val (.int (2 : Int32)), .val (.int (0 : Int32)), .val (.int x1)] [])
  refine Fin.go (fun _ k => XS.aloadN X0.here hx rfl (hb hby d16_26) rfl rfl k) ?_
  refine Fin.go (fun _ k => XS.iloadN X0.here hx rfl (hb hby d16_27) rfl k) ?_
  refine Fin.go (fun _ k => XS.iload X0.here hx rfl (hb hby d16_28) rfl k) ?_
  refine Fin.go (fun _ k => XT.i2b X0.here hx rfl (hb hby d16_30) rfl k) ?_
  show Fin _ p e below s _ _ _ s₁ (mkF m 31 #[.val (.ref b), .val (.int (0 : Int32)), .val (.ref d), .val (.int (0 : Int32)), .val (.int (2 : Int32)), .val (.int (0 : Int32)), .val (.int x1)] [(.int ((Int32.toInt8 x1).toInt32)), (.int (0 : Int32)), (.ref d)])
  obtain ⟨c12, B12, q12, S12, M12, H12, G12⟩ := id VD
  obtain ⟨T12, h12, X12, e12, W12, st12⟩ := stB X0 hx hZ e0 B12 (j := (0 : Int32)) (inb_of S12 ⟨(by decide : ¬ ((0 : Int32) < (0 : Int32))), (by decide : (0 : Int32) < (2 : Int32))⟩) (g := (mkF m 31 #[.val (.ref b), .val (.int (0 : Int32)), .val (.ref d), .val (.int (0 : Int32)), .val (.int (2 : Int32)), .val (.int (0 : Int32)), .val (.int x1)] [(.int ((Int32.toInt8 x1).toInt32)), (.int (0 : Int32)), (.ref d)])) rfl rfl (hb hby d16_31)
  refine Fin.go st12 ?_
  have V12 : Arv Z h12 d kd .byte (2 : Int32) [(.int ((Int32.toInt8 x1).toInt32)), (.int (0 : Int32))] (.int (0 : Int32)) := (by have q : Arv Z h12 d kd .byte (2 : Int32) [(.int (nar .byte ((Int32.toInt8 x1).toInt32))), (.int (0 : Int32))] (.int (0 : Int32)) := (Arv.set B12 q12 S12 M12 H12 G12 (fits_nar_byte _) W12 0 rfl (Nat.le_of_ble_eq_true rfl)); rwa [nar_b8] at q)
  have N12 := Fr.snoc X12 N0 nd
  have O12 := O.wr W12 nd
  have K12 := K0.wr W12 (Or.inl (List.mem_of_getElem? (i := 0) rfl))
  show Fin _ p e below s _ _ _ T12 (mkF m 32 #[.val (.ref b), .val (.int (0 : Int32)), .val (.ref d), .val (.int (0 : Int32)), .val (.int (2 : Int32)), .val (.int (0 : Int32)), .val (.int x1)] [])
  refine Fin.go (fun _ k => XS.iinc X12.here hx rfl (hb hby d16_32) rfl (l' := #[.val (.ref b), .val (.int ((0 : Int32) + (1 : Int32))), .val (.ref d), .val (.int (0 : Int32)), .val (.int (2 : Int32)), .val (.int (0 : Int32)), .val (.int x1)]) rfl k) ?_
  refine Fin.go (fun _ k => XS.iinc X12.here hx rfl (hb hby d16_35) rfl (l' := #[.val (.ref b), .val (.int ((0 : Int32) + (1 : Int32))), .val (.ref d), .val (.int ((0 : Int32) + (1 : Int32))), .val (.int (2 : Int32)), .val (.int (0 : Int32)), .val (.int x1)]) rfl k) ?_
  refine Fin.go (fun _ k => XS.iinc X12.here hx rfl (hb hby d16_38) rfl (l' := #[.val (.ref b), .val (.int ((0 : Int32) + (1 : Int32))), .val (.ref d), .val (.int ((0 : Int32) + (1 : Int32))), .val (.int (2 : Int32)), .val (.int ((0 : Int32) + (1 : Int32))), .val (.int x1)]) rfl k) ?_
  refine Fin.go (fun _ k => XS.goto X12.here hx rfl (pc0 := 41) (pc' := 3) rfl (hb hby d16_41) (by decide) (by decide) k) ?_
  show Fin _ p e below s _ _ _ T12 (mkF m 3 #[.val (.ref b), .val (.int ((0 : Int32) + (1 : Int32))), .val (.ref d), .val (.int ((0 : Int32) + (1 : Int32))), .val (.int (2 : Int32)), .val (.int ((0 : Int32) + (1 : Int32))), .val (.int x1)] [])
  refine Fin.go (fun _ k => XS.iload X12.here hx rfl (hb hby d16_3) rfl k) ?_
  refine Fin.go (fun _ k => XS.iload X12.here hx rfl (hb hby d16_5) rfl k) ?_
  refine Fin.go (fun _ k => XS.icmpNo X12.here hx rfl (hb hby d16_7) rfl (XT.ii_ge_f (by decide)) k) ?_
  show Fin _ p e below s _ _ _ T12 (mkF m 10 #[.val (.ref b), .val (.int ((0 : Int32) + (1 : Int32))), .val (.ref d), .val (.int ((0 : Int32) + (1 : Int32))), .val (.int (2 : Int32)), .val (.int ((0 : Int32) + (1 : Int32))), .val (.int x1)] [])
  refine Fin.go (fun _ k => XS.aloadN X12.here hx rfl (hb hby d16_10) rfl rfl k) ?_
  refine Fin.go (fun _ k => XS.iloadN X12.here hx rfl (hb hby d16_11) rfl k) ?_
  obtain ⟨c13, B13, q13, S13, M13, H13, G13⟩ := id (VB.other W12 nbd)
  have i13 := inb_of S13 ⟨(by decide : ¬ (((0 : Int32) + (1 : Int32)) < (0 : Int32))), (by decide : ((0 : Int32) + (1 : Int32)) < (2 : Int32))⟩
  refine Fin.go (fun _ k => X12.caload hx (j := ((0 : Int32) + (1 : Int32))) (v := (.int x2)) (by rw [e12]; exact B13.1) (State.isArrayOf_alike hZ.alike B13.2.1) B13.2.2 i13 (Has.at H13 i13 rfl) (g := (mkF m 12 #[.val (.ref b), .val (.int ((0 : Int32) + (1 : Int32))), .val (.ref d), .val (.int ((0 : Int32) + (1 : Int32))), .val (.int (2 : Int32)), .val (.int ((0 : Int32) + (1 : Int32))), .val (.int x1)] [(.int ((0 : Int32) + (1 : Int32))), (.ref b)])) rfl rfl (hb hby d16_12) _ k) ?_
  show Fin _ p e below s _ _ _ T12 (mkF m 13 #[.val (.ref b), .val (.int ((0 : Int32) + (1 : Int32))), .val (.ref d), .val (.int ((0 : Int32) + (1 : Int32))), .val (.int (2 : Int32)), .val (.int ((0 : Int32) + (1 : Int32))), .val (.int x1)] [(.int x2)])
  refine Fin.go (fun _ k => XS.istore X12.here hx rfl (hb hby d16_13) rfl (l' := #[.val (.ref b), .val (.int ((0 : Int32) + (1 : Int32))), .val (.ref d), .val (.int ((0 : Int32) + (1 : Int32))), .val (.int (2 : Int32)), .val (.int ((0 : Int32) + (1 : Int32))), .val (.int x2)]) rfl k) ?_
  refine Fin.go (fun _ k => XS.iload X12.here hx rfl (hb hby d16_15) rfl k) ?_
  refine Fin.go (fun _ k => XS.sipush X12.here hx rfl (hb hby d16_17) k) ?_
  refine Fin.go (fun _ k => XS.icmpYes X12.here hx rfl (pc0 := 20) (pc' := 26) rfl (hb hby d16_20) rfl (XT.ii_le_t hp2) (by decide) (by decide) k) ?_
  show Fin _ p e below s _ _ _ T12 (mkF m 26 #[.val (.ref b), .val (.int ((0 : Int32) + (1 : Int32))), .val (.ref d), .val (.int ((0 : Int32) + (1 : Int32))), .val (.int (2 : Int32)), .val (.int ((0 : Int32) + (1 : Int32))), .val (.int x2)] [])
  refine Fin.go (fun _ k => XS.aloadN X12.here hx rfl (hb hby d16_26) rfl rfl k) ?_
  refine Fin.go (fun _ k => XS.iloadN X12.here hx rfl (hb hby d16_27) rfl k) ?_
  refine Fin.go (fun _ k => XS.iload X12.here hx rfl (hb hby d16_28) rfl k) ?_
  refine Fin.go (fun _ k => XT.i2b X12.here hx rfl (hb hby d16_30) rfl k) ?_
  show Fin _ p e below s _ _ _ T12 (mkF m 31 #[.val (.ref b), .val (.int ((0 : Int32) + (1 : Int32))), .val (.ref d), .val (.int ((0 : Int32) + (1 : Int32))), .val (.int (2 : Int32)), .val (.int ((0 : Int32) + (1 : Int32))), .val (.int x2)] [(.int ((Int32.toInt8 x2).toInt32)), (.int ((0 : Int32) + (1 : Int32))), (.ref d)])
  obtain ⟨c14, B14, q14, S14, M14, H14, G14⟩ := id V12
  obtain ⟨T14, h14, X14, e14, W14, st14⟩ := stB X12 hx hZ e12 B14 (j := ((0 : Int32) + (1 : Int32))) (inb_of S14 ⟨(by decide : ¬ (((0 : Int32) + (1 : Int32)) < (0 : Int32))), (by decide : ((0 : Int32) + (1 : Int32)) < (2 : Int32))⟩) (g := (mkF m 31 #[.val (.ref b), .val (.int ((0 : Int32) + (1 : Int32))), .val (.ref d), .val (.int ((0 : Int32) + (1 : Int32))), .val (.int (2 : Int32)), .val (.int ((0 : Int32) + (1 : Int32))), .val (.int x2)] [(.int ((Int32.toInt8 x2).toInt32)), (.int ((0 : Int32) + (1 : Int32))), (.ref d)])) rfl rfl (hb hby d16_31)
  refine Fin.go st14 ?_
  have V14 : Arv Z h14 d kd .byte (2 : Int32) [(.int ((Int32.toInt8 x1).toInt32)), (.int ((Int32.toInt8 x2).toInt32))] (.int (0 : Int32)) := (by have q : Arv Z h14 d kd .byte (2 : Int32) [(.int ((Int32.toInt8 x1).toInt32)), (.int (nar .byte ((Int32.toInt8 x2).toInt32)))] (.int (0 : Int32)) := (Arv.set B14 q14 S14 M14 H14 G14 (fits_nar_byte _) W14 1 rfl (Nat.le_of_ble_eq_true rfl)); rwa [nar_b8] at q)
  have N14 := Fr.snoc X14 N12 nd
  have O14 := O12.wr W14 nd
  have K14 := K12.wr W14 (Or.inl (List.mem_of_getElem? (i := 0) rfl))
  show Fin _ p e below s _ _ _ T14 (mkF m 32 #[.val (.ref b), .val (.int ((0 : Int32) + (1 : Int32))), .val (.ref d), .val (.int ((0 : Int32) + (1 : Int32))), .val (.int (2 : Int32)), .val (.int ((0 : Int32) + (1 : Int32))), .val (.int x2)] [])
  refine Fin.go (fun _ k => XS.iinc X14.here hx rfl (hb hby d16_32) rfl (l' := #[.val (.ref b), .val (.int (((0 : Int32) + (1 : Int32)) + (1 : Int32))), .val (.ref d), .val (.int ((0 : Int32) + (1 : Int32))), .val (.int (2 : Int32)), .val (.int ((0 : Int32) + (1 : Int32))), .val (.int x2)]) rfl k) ?_
  refine Fin.go (fun _ k => XS.iinc X14.here hx rfl (hb hby d16_35) rfl (l' := #[.val (.ref b), .val (.int (((0 : Int32) + (1 : Int32)) + (1 : Int32))), .val (.ref d), .val (.int (((0 : Int32) + (1 : Int32)) + (1 : Int32))), .val (.int (2 : Int32)), .val (.int ((0 : Int32) + (1 : Int32))), .val (.int x2)]) rfl k) ?_
  refine Fin.go (fun _ k => XS.iinc X14.here hx rfl (hb hby d16_38) rfl (l' := #[.val (.ref b), .val (.int (((0 : Int32) + (1 : Int32)) + (1 : Int32))), .val (.ref d), .val (.int (((0 : Int32) + (1 : Int32)) + (1 : Int32))), .val (.int (2 : Int32)), .val (.int (((0 : Int32) + (1 : Int32)) + (1 : Int32))), .val (.int x2)]) rfl k) ?_
  refine Fin.go (fun _ k => XS.goto X14.here hx rfl (pc0 := 41) (pc' := 3) rfl (hb hby d16_41) (by decide) (by decide) k) ?_
  show Fin _ p e below s _ _ _ T14 (mkF m 3 #[.val (.ref b), .val (.int (((0 : Int32) + (1 : Int32)) + (1 : Int32))), .val (.ref d), .val (.int (((0 : Int32) + (1 : Int32)) + (1 : Int32))), .val (.int (2 : Int32)), .val (.int (((0 : Int32) + (1 : Int32)) + (1 : Int32))), .val (.int x2)] [])
  refine Fin.go (fun _ k => XS.iload X14.here hx rfl (hb hby d16_3) rfl k) ?_
  refine Fin.go (fun _ k => XS.iload X14.here hx rfl (hb hby d16_5) rfl k) ?_
  refine Fin.go (fun _ k => XS.icmpYes X14.here hx rfl (pc0 := 7) (pc' := 44) rfl (hb hby d16_7) rfl (XT.ii_ge_t (by decide)) (by decide) (by decide) k) ?_
  show Fin _ p e below s _ _ _ T14 (mkF m 44 #[.val (.ref b), .val (.int (((0 : Int32) + (1 : Int32)) + (1 : Int32))), .val (.ref d), .val (.int (((0 : Int32) + (1 : Int32)) + (1 : Int32))), .val (.int (2 : Int32)), .val (.int (((0 : Int32) + (1 : Int32)) + (1 : Int32))), .val (.int x2)] [])
  refine Fin.go (fun _ k => XS.iload X14.here hx rfl (hb hby d16_44) rfl k) ?_
  exact Fin.leaveN X14 e14 hlk (v := some (.int (2 : Int32))) (fun h => by rw [hret] at h; cases h) (by decide) (by decide) ⟨rfl, N14, K14, V14⟩ (fun fs hr => retI X14 hx hret (hb hby d16_46) hr)
set_option maxRecDepth 65536 in
set_option maxHeartbeats 40000000 in
theorem rmCmpA2 (l : Launch) (Z : State) (a0 : Array Value) (hw : ∀ d ∈ tables_1, d.before a0 Z = true) (n0 : Nat) (h0 : Heap) (O : Old Z n0 h0) (b : Addr) (kb : ClassId) (x1 x2 : Int32) (VB : Arv Z h0 b kb .char (2 : Int32) [(.int x1), (.int x2)] (.int (0 : Int32))) (hp1 : ¬ (255 : Int32) < x1) (hp2 : ¬ (255 : Int32) < x2) :
    ConW FrameEnd l Z [] (⟨"java/lang/StringUTF16", "compress", "([CII)[B"⟩ : MethodName) jdk_52_method_16_code 6 (some (.array .byte)) ({ frames := 1, cells := 1, slots := 2, locals := 18 } : Room) #[(.ref b), (.int (0 : Int32)), (.int (2 : Int32))] h0 (fun v h L => ∃ d kd, v = some (.ref d) ∧ Fr n0 L ∧ Keep h0 h [] ∧ Arv Z h d kd .byte (2 : Int32) [(.int ((Int32.toInt8 x1).toInt32)), (.int ((Int32.toInt8 x2).toInt32))] (.int (0 : Int32)) ∧ h0.size ≤ d) := by
  refine conOf (plainFor_of_name pn_java_lang_StringUTF16) ?_
  intro p e s m below mth cc s₁ X0 hx hby hml hown hnm hret hlk hZ e0
  have N0 := Fr.nil n0
  have K0 := Keep.refl h0 ([] : List Addr)
  refine Fin.came (castTop (t := _) (by first | (simp [entryFrame, mkF, argsToLocals, Value.category]; done) | rfl) (Steps.refl _) : Steps p.tables e below (s₁.setTop (entryFrame m #[(.ref b), (.int (0 : Int32)), (.int (2 : Int32))] 6)) (s₁.setTop (mkF m 0 #[.val (.ref b), .val (.int (0 : Int32)), .val (.int (2 : Int32)), .unset, .unset, .unset] []))) ?_
  show Fin _ p e below s _ _ _ s₁ (mkF m 0 #[.val (.ref b), .val (.int (0 : Int32)), .val (.int (2 : Int32)), .unset, .unset, .unset] [])
  refine Fin.go (fun _ k => XS.iloadN X0.here hx rfl (hb hby d15_0) rfl k) ?_
  obtain ⟨T11, h11, k11, X11, e11, E11, A11, st11⟩ := newP X0 hx hZ (aty := .byte) (hw _ w_21) e0 (g := (mkF m 1 #[.val (.ref b), .val (.int (0 : Int32)), .val (.int (2 : Int32)), .unset, .unset, .unset] [(.int (2 : Int32))])) rfl (hb hby d15_1) rfl (by decide : ¬ ((2 : Int32) < (0 : Int32))) (cap := 2) (by decide) (by decide) (by decide) (by decide)
  obtain ⟨a11, g11⟩ : ∃ z, z = h0.size := ⟨_, rfl⟩
  rw [← g11] at A11 st11
  refine Fin.go st11 ?_
  have O11 := O.ext E11
  have K11 := K0.ext E11
  have n11 : n0 ≤ a11 := by have := O.2.1; have := O.1; omega
  have z11 : h0.size ≤ a11 := by have := K0.1; omega
  have V11 : Arv Z h11 a11 k11 .byte (2 : Int32) [(.int (0 : Int32)), (.int (0 : Int32))] (.int (0 : Int32)) := (Arv.new A11 (by decide)).pad (pad_rep [] (.int (0 : Int32)) 2)
  show Fin _ p e below s _ _ _ T11 (mkF m 3 #[.val (.ref b), .val (.int (0 : Int32)), .val (.int (2 : Int32)), .unset, .unset, .unset] [(.ref a11)])
  refine Fin.go (fun _ k => XS.astoreN X11.here hx rfl (hb hby d15_3) rfl rfl (l' := #[.val (.ref b), .val (.int (0 : Int32)), .val (.int (2 : Int32)), .val (.ref a11), .unset, .unset]) rfl k) ?_
  refine Fin.go (fun _ k => XS.aloadN X11.here hx rfl (hb hby d15_4) rfl rfl k) ?_
  refine Fin.go (fun _ k => XS.iloadN X11.here hx rfl (hb hby d15_5) rfl k) ?_
  refine Fin.go (fun _ k => XS.aloadN X11.here hx rfl (hb hby d15_6) rfl rfl k) ?_
  show Fin _ p e below s _ _ _ T11 (mkF m 7 #[.val (.ref b), .val (.int (0 : Int32)), .val (.int (2 : Int32)), .val (.ref a11), .unset, .unset] [(.ref a11), (.int (0 : Int32)), (.ref b)])
  refine Fin.go (fun _ k => XS.iconst X11.here hx rfl (hb hby d15_7) k) ?_
  refine Fin.go (fun _ k => XS.iloadN X11.here hx rfl (hb hby d15_8) rfl k) ?_
  obtain ⟨v12, T12, L12, X12, q12, st12⟩ := callSt X11 hx hZ (y := (⟨"java/lang/StringUTF16", "compress", "([CI[BII)I"⟩ : MethodName)) hown (hw _ w_112) (hw _ w_113) (hw _ w_110) (hw _ w_114) (by decide) (W := 0) (rmCmpB2 l Z a0 hw n0 h11 O11 b a11 kb k11 x1 x2 (VB.ext E11) V11 hp1 hp2 n11 (Nat.ne_of_lt (Nat.lt_of_lt_of_eq VB.lt g11.symm))) e11 (by decide) (by decide) (by decide) (by decide) (g := (mkF m 9 #[.val (.ref b), .val (.int (0 : Int32)), .val (.int (2 : Int32)), .val (.ref a11), .unset, .unset] [(.int (2 : Int32)), (.int (0 : Int32)), (.ref a11), (.int (0 : Int32)), (.ref b)])) rfl (by rw [hml]; rfl) (argsL := [(.ref b), (.int (0 : Int32)), (.ref a11), (.int (0 : Int32)), (.int (2 : Int32))]) (rest := []) (lenOf pd_oACIABIIcI rfl) rfl (by show 2 * 0 + _ ≤ _; exact Nat.le_of_eq rfl) (hb hby d15_9)
  obtain ⟨rfl, Nq12, Kq12, V12⟩ := q12
  have N12 := Fr.app N0 Nq12
  have O12 := O11.keep Kq12 (allS n11 all0)
  have K12 := K11.trans Kq12 (allS (Or.inr z11) all0)
  refine Fin.go st12 ?_
  have V12_b := ((VB.ext E11).keep Kq12 (ninS (Nat.ne_of_lt (Nat.lt_of_lt_of_eq VB.lt g11.symm)) nin0))
  show Fin _ p e below s _ _ _ T12 (mkF m 12 #[.val (.ref b), .val (.int (0 : Int32)), .val (.int (2 : Int32)), .val (.ref a11), .unset, .unset] [(.int (2 : Int32))])
  refine Fin.go (fun _ k => XS.istore X12.here hx rfl (hb hby d15_12) rfl (l' := #[.val (.ref b), .val (.int (0 : Int32)), .val (.int (2 : Int32)), .val (.ref a11), .val (.int (2 : Int32)), .unset]) rfl k) ?_
  refine Fin.go (fun _ k => XS.iload X12.here hx rfl (hb hby d15_14) rfl k) ?_
  refine Fin.go (fun _ k => XS.iloadN X12.here hx rfl (hb hby d15_16) rfl k) ?_
  refine Fin.go (fun _ k => XS.icmpYes X12.here hx rfl (pc0 := 17) (pc' := 57) rfl (hb hby d15_17) rfl (XT.ii_eq_t (by decide)) (by decide) (by decide) k) ?_
  show Fin _ p e below s _ _ _ T12 (mkF m 57 #[.val (.ref b), .val (.int (0 : Int32)), .val (.int (2 : Int32)), .val (.ref a11), .val (.int (2 : Int32)), .unset] [])
  refine Fin.go (fun _ k => XS.aloadN X12.here hx rfl (hb hby d15_57) rfl rfl k) ?_
  exact Fin.leaveN X12 (rfl : T12.heap = T12.heap) hlk (v := some (.ref a11)) (fun h => by rw [hret] at h; cases h) (by decide) (by decide) ⟨a11, k11, rfl, N12, K12, V12, z11⟩ (fun fs hr => retOut X12 hx hret rfl (Or.inr (Or.inr (Or.inr (Or.inr ⟨rfl, rfl, rfl⟩)))) (hb hby d15_58) hr)
set_option maxRecDepth 65536 in
set_option maxHeartbeats 40000000 in
theorem rmCod2 (l : Launch) (Z : State) (a0 : Array Value) (hw : ∀ d ∈ tables_1, d.before a0 Z = true) (n0 : Nat) (h0 : Heap) (O : Old Z n0 h0) (d : Addr) (kd : ClassId) (x1 x2 : Int32) (VD : Arv Z h0 d kd .byte (2 : Int32) [(.int x1), (.int x2)] (.int (0 : Int32))) :
    ConW FrameEnd l Z [] (⟨"java/lang/StringUTF16", "coderFromArrayLen", "([BI)B"⟩ : MethodName) jdk_52_method_15_code 2 (some .byte) ({ frames := 0, cells := 0, slots := 0, locals := 0 } : Room) #[(.ref d), (.int (2 : Int32))] h0 (Pure h0 (some (.int (0 : Int32)))) := by
  refine conOf (plainFor_of_name pn_java_lang_StringUTF16) ?_
  intro p e s m below mth cc s₁ X0 hx hby hml hown hnm hret hlk hZ e0
  have N0 := Fr.nil n0
  refine Fin.came (castTop (t := _) (by first | (simp [entryFrame, mkF, argsToLocals, Value.category]; done) | rfl) (Steps.refl _) : Steps p.tables e below (s₁.setTop (entryFrame m #[(.ref d), (.int (2 : Int32))] 2)) (s₁.setTop (mkF m 0 #[.val (.ref d), .val (.int (2 : Int32))] []))) ?_
  show Fin _ p e below s _ _ _ s₁ (mkF m 0 #[.val (.ref d), .val (.int (2 : Int32))] [])
  refine Fin.go (fun _ k => XS.iloadN X0.here hx rfl (hb hby d17_0) rfl k) ?_
  refine Fin.go (fun _ k => XS.aloadN X0.here hx rfl (hb hby d17_1) rfl rfl k) ?_
  obtain ⟨c11, B11, q11, S11, M11, H11, G11⟩ := id VD
  refine Fin.go (fun _ k => X0.arraylength hx (by rw [e0]; exact B11.1) (State.isArrayOf_alike hZ.alike B11.2.1) (g := (mkF m 2 #[.val (.ref d), .val (.int (2 : Int32))] [(.ref d), (.int (2 : Int32))])) rfl rfl (hb hby d17_2) _ k) ?_
  rw [len_of S11 M11]
  show Fin _ p e below s _ _ _ s₁ (mkF m 3 #[.val (.ref d), .val (.int (2 : Int32))] [(.int (2 : Int32)), (.int (2 : Int32))])
  refine Fin.go (fun _ k => XS.isub X0.here hx rfl (hb hby d17_3) rfl k) ?_
  refine Fin.go (fun _ k => XS.bipush X0.here hx rfl (hb hby d17_4) k) ?_
  refine Fin.go (fun _ k => XT.iushr X0.here hx rfl (hb hby d17_6) rfl k) ?_
  refine Fin.go (fun _ k => XT.i2b X0.here hx rfl (hb hby d17_7) rfl k) ?_
  show Fin _ p e below s _ _ _ s₁ (mkF m 8 #[.val (.ref d), .val (.int (2 : Int32))] [(.int ((Int32.toInt8 (XT.ushr ((2 : Int32) - (2 : Int32)) (31 : Int32))).toInt32))])
  exact Fin.leaveN X0 e0 hlk (v := some (.int (nar .byte ((Int32.toInt8 (XT.ushr ((2 : Int32) - (2 : Int32)) (31 : Int32))).toInt32)))) (fun h => by rw [hret] at h; cases h) (by decide) (by decide) ⟨by decide +kernel, rfl, rfl⟩ (fun fs hr => retN X0 hx (t := .byte) hret (by simp) (hb hby d17_8) hr)
set_option maxRecDepth 65536 in
set_option maxHeartbeats 40000000 in
theorem rmStrV2 (l : Launch) (Z : State) (a0 : Array Value) (hw : ∀ d ∈ tables_1, d.before a0 Z = true) (n0 : Nat) (h0 : Heap) (O : Old Z n0 h0) (a b : Addr) (kb : ClassId) (x1 x2 : Int32) (cs : Int32) (S_cs : Sta Z Z.heap "java/lang/String" "COMPACT_STRINGS" "Z" (.int cs)) (hcs : ¬ cs = 0) (VB : Arv Z h0 b kb .char (2 : Int32) [(.int x1), (.int x2)] (.int (0 : Int32))) (A : Exa Z h0 a "java/lang/String") (F1 : Fld Z h0 a "java/lang/String" "coder" "B" (.int (0 : Int32))) (F2 : Fld Z h0 a "java/lang/String" "value" "[B" .null) (hp1 : ¬ (255 : Int32) < x1) (hp2 : ¬ (255 : Int32) < x2) (na : n0 ≤ a) (nba : b ≠ a) :
    ConW FrameEnd l Z [] (⟨"java/lang/String", "<init>", "([CIILjava/lang/Void;)V"⟩ : MethodName) jdk_42_method_149_code 6 none ({ frames := 2, cells := 1, slots := 2, locals := 35 } : Room) #[(.ref a), (.ref b), (.int (0 : Int32)), (.int (2 : Int32)), .null] h0 (fun v h L => v = none ∧ Fr n0 L ∧ Keep h0 h [a] ∧ Exa Z h a "java/lang/String" ∧ Fld Z h a "java/lang/String" "coder" "B" (.int (0 : Int32)) ∧ ∃ d kd, Fld Z h a "java/lang/String" "value" "[B" (.ref d) ∧ Arv Z h d kd .byte (2 : Int32) [(.int ((Int32.toInt8 x1).toInt32)), (.int ((Int32.toInt8 x2).toInt32))] (.int (0 : Int32)) ∧ h0.size ≤ d) := by
  refine conOf (plainFor_of_name pn_java_lang_String) ?_
  intro p e s m below mth cc s₁ X0 hx hby hml hown hnm hret hlk hZ e0
  have N0 := Fr.nil n0
  have K0 := Keep.refl h0 ([a] : List Addr)
  refine Fin.came (castTop (t := _) (by first | (simp [entryFrame, mkF, argsToLocals, Value.category]; done) | rfl) (Steps.refl _) : Steps p.tables e below (s₁.setTop (entryFrame m #[(.ref a), (.ref b), (.int (0 : Int32)), (.int (2 : Int32)), .null] 6)) (s₁.setTop (mkF m 0 #[.val (.ref a), .val (.ref b), .val (.int (0 : Int32)), .val (.int (2 : Int32)), .val .null, .unset] []))) ?_
  show Fin _ p e below s _ _ _ s₁ (mkF m 0 #[.val (.ref a), .val (.ref b), .val (.int (0 : Int32)), .val (.int (2 : Int32)), .val .null, .unset] [])
  refine Fin.go (fun _ k => XS.aloadN X0.here hx rfl (hb hby d3_0) rfl rfl k) ?_
  obtain ⟨T11, X11, e11, st11⟩ := initO X0 hx hZ hown (hw _ w_17) (hw _ w_18) (hw _ w_19) e0 (g := (mkF m 1 #[.val (.ref a), .val (.ref b), .val (.int (0 : Int32)), .val (.int (2 : Int32)), .val .null, .unset] [(.ref a)])) rfl (by rw [hml]; rfl) rfl (hb hby d3_1) (by decide) (W := 0) (by show 2 * 0 + _ ≤ _; exact Nat.le_of_eq rfl) (by decide)
  refine Fin.go st11 ?_
  show Fin _ p e below s _ _ _ T11 (mkF m 4 #[.val (.ref a), .val (.ref b), .val (.int (0 : Int32)), .val (.int (2 : Int32)), .val .null, .unset] [])
  refine Fin.go (fun _ k => XS.iloadN X11.here hx rfl (hb hby d3_4) rfl k) ?_
  refine Fin.go (fun _ k => XS.ifYes X11.here hx rfl (pc0 := 5) (pc' := 27) rfl (hb hby d3_5) rfl (XT.i0_ne_t (by decide)) (by decide) (by decide) k) ?_
  show Fin _ p e below s _ _ _ T11 (mkF m 27 #[.val (.ref a), .val (.ref b), .val (.int (0 : Int32)), .val (.int (2 : Int32)), .val .null, .unset] [])
  obtain ⟨T12, X12, e12, st12⟩ := getS2 X11 hx hZ hown (host := "") (Or.inl (hw _ w_103)) Via.refl e11 (S_cs.ext O.2) (g := (mkF m 27 #[.val (.ref a), .val (.ref b), .val (.int (0 : Int32)), .val (.int (2 : Int32)), .val .null, .unset] [])) rfl (hb hby d3_27)
  refine Fin.go st12 ?_
  show Fin _ p e below s _ _ _ T12 (mkF m 30 #[.val (.ref a), .val (.ref b), .val (.int (0 : Int32)), .val (.int (2 : Int32)), .val .null, .unset] [(.int cs)])
  refine Fin.go (fun _ k => XS.ifNo X12.here hx rfl (hb hby d3_30) rfl (XT.i0_eq_f hcs) k) ?_
  show Fin _ p e below s _ _ _ T12 (mkF m 33 #[.val (.ref a), .val (.ref b), .val (.int (0 : Int32)), .val (.int (2 : Int32)), .val .null, .unset] [])
  refine Fin.go (fun _ k => XS.aloadN X12.here hx rfl (hb hby d3_33) rfl rfl k) ?_
  refine Fin.go (fun _ k => XS.iloadN X12.here hx rfl (hb hby d3_34) rfl k) ?_
  refine Fin.go (fun _ k => XS.iloadN X12.here hx rfl (hb hby d3_35) rfl k) ?_
  obtain ⟨v13, T13, L13, X13, q13, st13⟩ := callSt X12 hx hZ (y := (⟨"java/lang/StringUTF16", "compress", "([CII)[B"⟩ : MethodName)) hown (hw _ w_108) (hw _ w_109) (hw _ w_110) (hw _ w_111) (by decide) (W := 0) (rmCmpA2 l Z a0 hw n0 h0 O b kb x1 x2 VB hp1 hp2) e12 (by decide) (by decide) (by decide) (by decide) (g := (mkF m 36 #[.val (.ref a), .val (.ref b), .val (.int (0 : Int32)), .val (.int (2 : Int32)), .val .null, .unset] [(.int (2 : Int32)), (.int (0 : Int32)), (.ref b)])) rfl (by rw [hml]; rfl) (argsL := [(.ref b), (.int (0 : Int32)), (.int (2 : Int32))]) (rest := []) (lenOf pd_oACIIcAB rfl) rfl (by show 2 * 0 + _ ≤ _; exact Nat.le_of_eq rfl) (hb hby d3_36)
  obtain ⟨d13, kd13, rfl, Nq13, Kq13, V13, zd13⟩ := q13
  have N13 := Fr.app N0 Nq13
  have O13 := O.keep Kq13 all0
  have K13 := K0.trans Kq13 all0
  refine Fin.go st13 ?_
  show Fin _ p e below s _ _ _ T13 (mkF m 39 #[.val (.ref a), .val (.ref b), .val (.int (0 : Int32)), .val (.int (2 : Int32)), .val .null, .unset] [(.ref d13)])
  have nzd13 : n0 ≤ d13 := Nat.le_trans (by have := O.1; have := O.2.1; omega) zd13
  have hzd13 : h0.size ≤ d13 := Nat.le_trans K0.1 zd13
  refine Fin.go (fun _ k => XS.astore X13.here hx rfl (hb hby d3_39) rfl rfl (l' := #[.val (.ref a), .val (.ref b), .val (.int (0 : Int32)), .val (.int (2 : Int32)), .val .null, .val (.ref d13)]) rfl k) ?_
  refine Fin.go (fun _ k => XS.aloadN X13.here hx rfl (hb hby d3_41) rfl rfl k) ?_
  refine Fin.go (fun _ k => XS.aload X13.here hx rfl (hb hby d3_42) rfl rfl k) ?_
  refine Fin.go (fun _ k => XS.iloadN X13.here hx rfl (hb hby d3_44) rfl k) ?_
  show Fin _ p e below s _ _ _ T13 (mkF m 45 #[.val (.ref a), .val (.ref b), .val (.int (0 : Int32)), .val (.int (2 : Int32)), .val .null, .val (.ref d13)] [(.int (2 : Int32)), (.ref d13), (.ref a)])
  obtain ⟨v14, T14, L14, X14, q14, st14⟩ := callSt X13 hx hZ (y := (⟨"java/lang/StringUTF16", "coderFromArrayLen", "([BI)B"⟩ : MethodName)) hown (hw _ w_115) (hw _ w_116) (hw _ w_110) (hw _ w_117) (by decide) (W := 1) (rmCod2 l Z a0 hw n0 T13.heap O13 d13 kd13 ((Int32.toInt8 x1).toInt32) ((Int32.toInt8 x2).toInt32) V13) (rfl : T13.heap = T13.heap) (by decide) (by decide) (by decide) (by decide) (g := (mkF m 45 #[.val (.ref a), .val (.ref b), .val (.int (0 : Int32)), .val (.int (2 : Int32)), .val .null, .val (.ref d13)] [(.int (2 : Int32)), (.ref d13), (.ref a)])) rfl (by rw [hml]; rfl) (argsL := [(.ref d13), (.int (2 : Int32))]) (rest := [(.ref a)]) (lenOf pd_oABIcB rfl) rfl (by show 2 * 0 + _ ≤ _; exact Nat.le_of_eq rfl) (hb hby d3_45)
  obtain ⟨rfl, e14, rfl⟩ := q14
  have N14 := Fr.app N13 (Fr.nil n0)
  refine Fin.go st14 ?_
  show Fin _ p e below s _ _ _ T14 (mkF m 48 #[.val (.ref a), .val (.ref b), .val (.int (0 : Int32)), .val (.int (2 : Int32)), .val .null, .val (.ref d13)] [(.int (0 : Int32)), (.ref a)])
  obtain ⟨T15, h15, X15, e15, W15, st15⟩ := putF X14 hx hZ hown (host := "") (Or.inl (hw _ w_27)) Via.refl e14 (F1.keep Kq13 nin0) (A.keep Kq13) (Or.inr ⟨(hw _ w_23), rfl, hnm⟩) (hw _ w_7) (ty := .byte) (by decide) rfl rfl (g := (mkF m 48 #[.val (.ref a), .val (.ref b), .val (.int (0 : Int32)), .val (.int (2 : Int32)), .val .null, .val (.ref d13)] [(.int (0 : Int32)), (.ref a)])) rfl rfl (hb hby d3_48)
  refine Fin.go st15 ?_
  have N15 := Fr.snoc X15 N14 na
  have O15 := O13.wr W15 na
  have K15 := K13.wr W15 (Or.inl (List.mem_of_getElem? (i := 0) rfl))
  have F15_a_value := ((F2.keep Kq13 nin0).other W15 (Or.inr (slot_ne (Or.inr (hw _ w_22)) (Or.inr (hw _ w_23)) (by decide) (t := (.array .byte)) (t' := .byte) (by decide) (by decide))))
  have V15_d13 := (V13.other W15 (Ne.symm (Nat.ne_of_lt (Nat.lt_of_lt_of_le F2.lt zd13))))
  show Fin _ p e below s _ _ _ T15 (mkF m 51 #[.val (.ref a), .val (.ref b), .val (.int (0 : Int32)), .val (.int (2 : Int32)), .val .null, .val (.ref d13)] [])
  refine Fin.go (fun _ k => XS.aloadN X15.here hx rfl (hb hby d3_51) rfl rfl k) ?_
  refine Fin.go (fun _ k => XS.aload X15.here hx rfl (hb hby d3_52) rfl rfl k) ?_
  obtain ⟨T16, h16, X16, e16, W16, st16⟩ := putF X15 hx hZ hown (host := "") (Or.inl (hw _ w_26)) Via.refl e15 F15_a_value ((A.keep Kq13).wr W15) (Or.inr ⟨(hw _ w_22), rfl, hnm⟩) (hw _ w_7) (ty := (.array .byte)) (by decide) rfl rfl (g := (mkF m 54 #[.val (.ref a), .val (.ref b), .val (.int (0 : Int32)), .val (.int (2 : Int32)), .val .null, .val (.ref d13)] [(.ref d13), (.ref a)])) rfl rfl (hb hby d3_54)
  refine Fin.go st16 ?_
  have N16 := Fr.snoc X16 N15 na
  have O16 := O15.wr W16 na
  have K16 := K15.wr W16 (Or.inl (List.mem_of_getElem? (i := 0) rfl))
  have F16_a_coder := (((F1.keep Kq13 nin0).same W15).other W16 (Or.inr (slot_ne (Or.inr (hw _ w_23)) (Or.inr (hw _ w_22)) (by decide) (t := .byte) (t' := (.array .byte)) (by decide) (by decide))))
  have V16_d13 := (V15_d13.other W16 (Ne.symm (Nat.ne_of_lt (Nat.lt_of_lt_of_le F2.lt zd13))))
  show Fin _ p e below s _ _ _ T16 (mkF m 57 #[.val (.ref a), .val (.ref b), .val (.int (0 : Int32)), .val (.int (2 : Int32)), .val .null, .val (.ref d13)] [])
  exact Fin.leaveN X16 e16 hlk (v := none) (fun _ => rfl) (by decide) (by decide) ⟨rfl, N16, K16, (((A.keep Kq13).wr W15).wr W16), F16_a_coder, d13, kd13, (F15_a_value.same W16), V16_d13, hzd13⟩ (fun fs hr => X16.returnOut hx hret (hb hby d3_57) hr)
set_option maxRecDepth 65536 in
set_option maxHeartbeats 40000000 in
theorem rmStr2 (l : Launch) (Z : State) (a0 : Array Value) (hw : ∀ d ∈ tables_1, d.before a0 Z = true) (n0 : Nat) (h0 : Heap) (O : Old Z n0 h0) (a b : Addr) (kb : ClassId) (x1 x2 : Int32) (cs : Int32) (S_cs : Sta Z Z.heap "java/lang/String" "COMPACT_STRINGS" "Z" (.int cs)) (hcs : ¬ cs = 0) (VB : Arv Z h0 b kb .char (2 : Int32) [(.int x1), (.int x2)] (.int (0 : Int32))) (A : Exa Z h0 a "java/lang/String") (F1 : Fld Z h0 a "java/lang/String" "coder" "B" (.int (0 : Int32))) (F2 : Fld Z h0 a "java/lang/String" "value" "[B" .null) (hp1 : ¬ (255 : Int32) < x1) (hp2 : ¬ (255 : Int32) < x2) (na : n0 ≤ a) (nba : b ≠ a) :
    ConW FrameEnd l Z [] (⟨"java/lang/String", "<init>", "([C)V"⟩ : MethodName) jdk_42_method_3_code 2 none ({ frames := 3, cells := 1, slots := 2, locals := 52 } : Room) #[(.ref a), (.ref b)] h0 (fun v h L => v = none ∧ Fr n0 L ∧ Keep h0 h [a] ∧ Exa Z h a "java/lang/String" ∧ Fld Z h a "java/lang/String" "coder" "B" (.int (0 : Int32)) ∧ ∃ d kd, Fld Z h a "java/lang/String" "value" "[B" (.ref d) ∧ Arv Z h d kd .byte (2 : Int32) [(.int ((Int32.toInt8 x1).toInt32)), (.int ((Int32.toInt8 x2).toInt32))] (.int (0 : Int32)) ∧ h0.size ≤ d) := by
  refine conOf (plainFor_of_name pn_java_lang_String) ?_
  intro p e s m below mth cc s₁ X0 hx hby hml hown hnm hret hlk hZ e0
  have N0 := Fr.nil n0
  have K0 := Keep.refl h0 ([a] : List Addr)
  refine Fin.came (castTop (t := _) (by first | (simp [entryFrame, mkF, argsToLocals, Value.category]; done) | rfl) (Steps.refl _) : Steps p.tables e below (s₁.setTop (entryFrame m #[(.ref a), (.ref b)] 2)) (s₁.setTop (mkF m 0 #[.val (.ref a), .val (.ref b)] []))) ?_
  show Fin _ p e below s _ _ _ s₁ (mkF m 0 #[.val (.ref a), .val (.ref b)] [])
  refine Fin.go (fun _ k => XS.aloadN X0.here hx rfl (hb hby d2_0) rfl rfl k) ?_
  refine Fin.go (fun _ k => XS.aloadN X0.here hx rfl (hb hby d2_1) rfl rfl k) ?_
  refine Fin.go (fun _ k => XS.iconst X0.here hx rfl (hb hby d2_2) k) ?_
  refine Fin.go (fun _ k => XS.aloadN X0.here hx rfl (hb hby d2_3) rfl rfl k) ?_
  show Fin _ p e below s _ _ _ s₁ (mkF m 4 #[.val (.ref a), .val (.ref b)] [(.ref b), (.int (0 : Int32)), (.ref b), (.ref a)])
  obtain ⟨c11, B11, q11, S11, M11, H11, G11⟩ := id VB
  refine Fin.go (fun _ k => X0.arraylength hx (by rw [e0]; exact B11.1) (State.isArrayOf_alike hZ.alike B11.2.1) (g := (mkF m 4 #[.val (.ref a), .val (.ref b)] [(.ref b), (.int (0 : Int32)), (.ref b), (.ref a)])) rfl rfl (hb hby d2_4) _ k) ?_
  rw [len_of S11 M11]
  show Fin _ p e below s _ _ _ s₁ (mkF m 5 #[.val (.ref a), .val (.ref b)] [(.int (2 : Int32)), (.int (0 : Int32)), (.ref b), (.ref a)])
  refine Fin.go (fun _ k => XS.aconstNull X0.here hx rfl (hb hby d2_5) k) ?_
  obtain ⟨v12, T12, L12, X12, q12, st12⟩ := callCt X0 hx hZ (y := (⟨"java/lang/String", "<init>", "([CIILjava/lang/Void;)V"⟩ : MethodName)) rfl hown (hw _ w_13) (hw _ w_14) (hw _ w_8) (hw _ w_16) (by decide) (W := 0) (rmStrV2 l Z a0 hw n0 h0 O a b kb x1 x2 cs S_cs hcs VB A F1 F2 hp1 hp2 na nba) e0 (by decide) (by decide) (by decide) (by decide) (g := (mkF m 6 #[.val (.ref a), .val (.ref b)] [.null, (.int (2 : Int32)), (.int (0 : Int32)), (.ref b), (.ref a)])) rfl (by rw [hml]; rfl) (a := a) (argsL := [(.ref b), (.int (0 : Int32)), (.int (2 : Int32)), .null]) (rest := []) (lenOf pd_oACIILjava_lang_Void_cV rfl) rfl (by show 2 * 0 + _ ≤ _; exact Nat.le_of_eq rfl) (hb hby d2_6)
  obtain ⟨rfl, Nq12, Kq12, A12, C12, d12, kd12, F12, V12, zd12⟩ := q12
  have N12 := Fr.app N0 Nq12
  have O12 := O.keep Kq12 (allS na all0)
  have K12 := K0.trans Kq12 (allS (Or.inl (List.mem_of_getElem? (i := 0) rfl)) all0)
  refine Fin.go st12 ?_
  show Fin _ p e below s _ _ _ T12 (mkF m 9 #[.val (.ref a), .val (.ref b)] [])
  exact Fin.leaveN X12 (rfl : T12.heap = T12.heap) hlk (v := none) (fun _ => rfl) (by decide) (by decide) ⟨rfl, N12, K12, A12, C12, d12, kd12, F12, V12, zd12⟩ (fun fs hr => X12.returnOut hx hret (hb hby d2_9) hr)
set_option maxRecDepth 65536 in
set_option maxHeartbeats 40000000 in
theorem rmStrV0 (l : Launch) (Z : State) (a0 : Array Value) (hw : ∀ d ∈ tables_1, d.before a0 Z = true) (n0 : Nat) (h0 : Heap) (O : Old Z n0 h0) (a b : Addr) (kb : ClassId) (VB : Arv Z h0 b kb .char (0 : Int32) [] (.int (0 : Int32))) (A : Exa Z h0 a "java/lang/String") (F1 : Fld Z h0 a "java/lang/String" "coder" "B" (.int (0 : Int32))) (F2 : Fld Z h0 a "java/lang/String" "value" "[B" .null) (na : n0 ≤ a) :
    ConHW l Z EL [] (⟨"java/lang/String", "<init>", "([CIILjava/lang/Void;)V"⟩ : MethodName) jdk_42_method_149_code 6 none ({ frames := 1, cells := 4, slots := 8, locals := 12 } : Room) #[(.ref a), (.ref b), (.int (0 : Int32)), (.int (0 : Int32)), .null] h0 (fun v h L => v = none ∧ Fr n0 L ∧ Keep h0 h [a] ∧ Exa Z h a "java/lang/String" ∧ Fld Z h a "java/lang/String" "coder" "B" (.int (0 : Int32)) ∧ ∃ d kd, Fld Z h a "java/lang/String" "value" "[B" (.ref d) ∧ Arv Z h d kd .byte (0 : Int32) [] (.int (0 : Int32))) := by
  refine conOfH (plainFor_of_name pn_java_lang_String) ?_
  intro p e s m below mth cc s₁ X0 hx hby hml hown hnm hret hlk hZ e0 hS RR0
  have N0 := Fr.nil n0
  have hEL := elW hw
  have K0 := Keep.refl h0 ([a] : List Addr)
  have sfa := safe_of_null (EL := EL) hZ.alike A F2
  refine Fin.came (castTop (t := _) (by first | (simp [entryFrame, mkF, argsToLocals, Value.category]; done) | rfl) (Steps.refl _) : Steps p.tables e below (s₁.setTop (entryFrame m #[(.ref a), (.ref b), (.int (0 : Int32)), (.int (0 : Int32)), .null] 6)) (s₁.setTop (mkF m 0 #[.val (.ref a), .val (.ref b), .val (.int (0 : Int32)), .val (.int (0 : Int32)), .val .null, .unset] []))) ?_
  show Fin _ p e below s _ _ _ s₁ (mkF m 0 #[.val (.ref a), .val (.ref b), .val (.int (0 : Int32)), .val (.int (0 : Int32)), .val .null, .unset] [])
  refine Fin.go (fun _ k => XS.aloadN X0.here hx rfl (hb hby d3_0) rfl rfl k) ?_
  obtain ⟨T11, X11, e11, st11⟩ := initO X0 hx hZ hown (hw _ w_17) (hw _ w_18) (hw _ w_19) e0 (g := (mkF m 1 #[.val (.ref a), .val (.ref b), .val (.int (0 : Int32)), .val (.int (0 : Int32)), .val .null, .unset] [(.ref a)])) rfl (by rw [hml]; rfl) rfl (hb hby d3_1) (by decide) (W := 0) (by show 2 * 0 + _ ≤ _; exact Nat.le_of_eq rfl) (by decide)
  refine Fin.go st11 ?_
  show Fin _ p e below s _ _ _ T11 (mkF m 4 #[.val (.ref a), .val (.ref b), .val (.int (0 : Int32)), .val (.int (0 : Int32)), .val .null, .unset] [])
  refine Fin.go (fun _ k => XS.iloadN X11.here hx rfl (hb hby d3_4) rfl k) ?_
  refine Fin.go (fun _ k => XS.ifNo X11.here hx rfl (hb hby d3_5) rfl (XT.i0_ne_f (by decide)) k) ?_
  show Fin _ p e below s _ _ _ T11 (mkF m 8 #[.val (.ref a), .val (.ref b), .val (.int (0 : Int32)), .val (.int (0 : Int32)), .val .null, .unset] [])
  refine Fin.go (fun _ k => XS.aloadN X11.here hx rfl (hb hby d3_8) rfl rfl k) ?_
  show Fin _ p e below s _ _ _ T11 (mkF m 9 #[.val (.ref a), .val (.ref b), .val (.int (0 : Int32)), .val (.int (0 : Int32)), .val .null, .unset] [(.ref a)])
  obtain ⟨a12, T12, h12, k12, b12, kb12, X12, e12, E12, hS12, hj12, hZ12, hown12, A12, C12, F12, V12, l112, l212, RC12, lt12, ns12, st12⟩ := ldcCH X11 hx hZ hown (hw _ w_20) (strW hw) e11 hS (Nat.zero_le _) hEL (by decide) RR0.1 (vs := []) (z := (0 : Int32)) (by decide +kernel) (by decide) (by decide) (g := (mkF m 9 #[.val (.ref a), .val (.ref b), .val (.int (0 : Int32)), .val (.int (0 : Int32)), .val .null, .unset] [(.ref a)])) rfl (hb hby d3_9) (n := 0) (by decide) (by decide) (by decide) (by decide)
  refine Fin.go st12 ?_
  have O12 := O.ext E12
  have K12 := K0.ext E12
  have RR12 := RR0.trans RC12
  show Fin _ p e below s _ _ _ T12 (mkF m 11 #[.val (.ref a), .val (.ref b), .val (.int (0 : Int32)), .val (.int (0 : Int32)), .val .null, .unset] [(.ref a12), (.ref a)])
  obtain ⟨T13, X13, e13, st13⟩ := getF X12 hx hZ12 hown12 (host := "") (Or.inl (hw _ w_26)) Via.refl e12 F12 (g := (mkF m 11 #[.val (.ref a), .val (.ref b), .val (.int (0 : Int32)), .val (.int (0 : Int32)), .val .null, .unset] [(.ref a12), (.ref a)])) rfl rfl (hb hby d3_11)
  refine Fin.go st13 ?_
  show Fin _ p e below s _ _ _ T13 (mkF m 14 #[.val (.ref a), .val (.ref b), .val (.int (0 : Int32)), .val (.int (0 : Int32)), .val .null, .unset] [(.ref b12), (.ref a)])
  obtain ⟨T14, h14, X14, e14, W14, st14⟩ := putF X13 hx hZ12 hown12 (host := "") (Or.inl (hw _ w_26)) Via.refl e13 (F2.ext E12) (A.ext E12) (Or.inr ⟨(hw _ w_22), rfl, hnm⟩) (hw _ w_7) (ty := (.array .byte)) (by decide) rfl rfl (g := (mkF m 14 #[.val (.ref a), .val (.ref b), .val (.int (0 : Int32)), .val (.int (0 : Int32)), .val .null, .unset] [(.ref b12), (.ref a)])) rfl rfl (hb hby d3_14)
  refine Fin.go st14 ?_
  have N14 := Fr.snoc X14 N0 na
  have O14 := O12.wr W14 na
  have K14 := K12.wr W14 (Or.inl (List.mem_of_getElem? (i := 0) rfl))
  have hk14 := Nat.le_trans hj12 (Keep.of_wr W14).1
  have RR14 := RR12.trans (CHr.wr W14 (CHr.safe RC12 A.lt sfa) RR12.1)
  have F14_a_coder := ((F1.ext E12).other W14 (Or.inr (slot_ne (Or.inr (hw _ w_23)) (Or.inr (hw _ w_22)) (by decide) (t := .byte) (t' := (.array .byte)) (by decide) (by decide))))
  have sf14_a := (Safe.wr W14 (CHr.safe RC12 A.lt sfa) RR12.1 (CHr.safe RC12 A.lt sfa))
  have F14_a12_coder := (C12.other W14 (Or.inl (Ne.symm (ns12 _ (CHr.safe RC12 A.lt sfa)).1)))
  have F14_a12_value := (F12.other W14 (Or.inl (Ne.symm (ns12 _ (CHr.safe RC12 A.lt sfa)).1)))
  have V14_b12 := (V12.other W14 (Ne.symm (ns12 _ (CHr.safe RC12 A.lt sfa)).2))
  show Fin _ p e below s _ _ _ T14 (mkF m 17 #[.val (.ref a), .val (.ref b), .val (.int (0 : Int32)), .val (.int (0 : Int32)), .val .null, .unset] [])
  refine Fin.go (fun _ k => XS.aloadN X14.here hx rfl (hb hby d3_17) rfl rfl k) ?_
  show Fin _ p e below s _ _ _ T14 (mkF m 18 #[.val (.ref a), .val (.ref b), .val (.int (0 : Int32)), .val (.int (0 : Int32)), .val .null, .unset] [(.ref a)])
  obtain ⟨a15, T15, h15, k15, b15, kb15, X15, e15, E15, hS15, hj15, hZ15, hown15, A15, C15, F15, V15, l115, l215, RC15, lt15, ns15, st15⟩ := ldcCH X14 hx hZ12 hown12 (hw _ w_20) (strW hw) e14 hS12 hk14 hEL (by decide) RR14.1 (vs := []) (z := (0 : Int32)) (by decide +kernel) (by decide) (by decide) (g := (mkF m 18 #[.val (.ref a), .val (.ref b), .val (.int (0 : Int32)), .val (.int (0 : Int32)), .val .null, .unset] [(.ref a)])) rfl (hb hby d3_18) (n := 0) (by decide) (by decide) (by decide) (by decide)
  refine Fin.go st15 ?_
  have O15 := O14.ext E15
  have K15 := K14.ext E15
  have RR15 := RR14.trans RC15
  show Fin _ p e below s _ _ _ T15 (mkF m 20 #[.val (.ref a), .val (.ref b), .val (.int (0 : Int32)), .val (.int (0 : Int32)), .val .null, .unset] [(.ref a15), (.ref a)])
  obtain ⟨T16, X16, e16, st16⟩ := getF X15 hx hZ15 hown15 (host := "") (Or.inl (hw _ w_27)) Via.refl e15 C15 (g := (mkF m 20 #[.val (.ref a), .val (.ref b), .val (.int (0 : Int32)), .val (.int (0 : Int32)), .val .null, .unset] [(.ref a15), (.ref a)])) rfl rfl (hb hby d3_20)
  refine Fin.go st16 ?_
  show Fin _ p e below s _ _ _ T16 (mkF m 23 #[.val (.ref a), .val (.ref b), .val (.int (0 : Int32)), .val (.int (0 : Int32)), .val .null, .unset] [(.int (0 : Int32)), (.ref a)])
  obtain ⟨T17, h17, X17, e17, W17, st17⟩ := putF X16 hx hZ15 hown15 (host := "") (Or.inl (hw _ w_27)) Via.refl e16 (F14_a_coder.ext E15) (((A.ext E12).wr W14).ext E15) (Or.inr ⟨(hw _ w_23), rfl, hnm⟩) (hw _ w_7) (ty := .byte) (by decide) rfl rfl (g := (mkF m 23 #[.val (.ref a), .val (.ref b), .val (.int (0 : Int32)), .val (.int (0 : Int32)), .val .null, .unset] [(.int (0 : Int32)), (.ref a)])) rfl rfl (hb hby d3_23)
  refine Fin.go st17 ?_
  have N17 := Fr.snoc X17 N14 na
  have O17 := O15.wr W17 na
  have K17 := K15.wr W17 (Or.inl (List.mem_of_getElem? (i := 0) rfl))
  have hk17 := Nat.le_trans hj15 (Keep.of_wr W17).1
  have RR17 := RR15.trans (CHr.wr W17 (CHr.safe RC15 ((A.ext E12).wr W14).lt sf14_a) RR15.1)
  have F17_a_value := ((((F2.ext E12).same W14).ext E15).other W17 (Or.inr (slot_ne (Or.inr (hw _ w_22)) (Or.inr (hw _ w_23)) (by decide) (t := (.array .byte)) (t' := .byte) (by decide) (by decide))))
  have sf17_a := (Safe.wr W17 (CHr.safe RC15 ((A.ext E12).wr W14).lt sf14_a) RR15.1 (CHr.safe RC15 ((A.ext E12).wr W14).lt sf14_a))
  have F17_a12_coder := ((F14_a12_coder.ext E15).other W17 (Or.inl (Ne.symm (ns12 _ (CHr.safe RC12 A.lt sfa)).1)))
  have F17_a12_value := ((F14_a12_value.ext E15).other W17 (Or.inl (Ne.symm (ns12 _ (CHr.safe RC12 A.lt sfa)).1)))
  have V17_b12 := ((V14_b12.ext E15).other W17 (Ne.symm (ns12 _ (CHr.safe RC12 A.lt sfa)).2))
  have F17_a15_coder := (C15.other W17 (Or.inl (Ne.symm (ns15 _ (CHr.safe RC15 ((A.ext E12).wr W14).lt sf14_a)).1)))
  have F17_a15_value := (F15.other W17 (Or.inl (Ne.symm (ns15 _ (CHr.safe RC15 ((A.ext E12).wr W14).lt sf14_a)).1)))
  have V17_b15 := (V15.other W17 (Ne.symm (ns15 _ (CHr.safe RC15 ((A.ext E12).wr W14).lt sf14_a)).2))
  show Fin _ p e below s _ _ _ T17 (mkF m 26 #[.val (.ref a), .val (.ref b), .val (.int (0 : Int32)), .val (.int (0 : Int32)), .val .null, .unset] [])
  exact Fin.leaveH X17 hS15 hk17 hZ15 hEL e17 RR17 hlk (v := none) (fun _ => rfl) (by decide) (by decide) ⟨rfl, N17, K17, ((((A.ext E12).wr W14).ext E15).wr W17), ((F14_a_coder.ext E15).same W17), b12, kb12, F17_a_value, V17_b12⟩ (fun fs hr => X17.returnOut hx hret (hb hby d3_26) hr)
set_option maxRecDepth 65536 in
set_option maxHeartbeats 40000000 in
theorem rmStr0 (l : Launch) (Z : State) (a0 : Array Value) (hw : ∀ d ∈ tables_1, d.before a0 Z = true) (n0 : Nat) (h0 : Heap) (O : Old Z n0 h0) (a b : Addr) (kb : ClassId) (VB : Arv Z h0 b kb .char (0 : Int32) [] (.int (0 : Int32))) (A : Exa Z h0 a "java/lang/String") (F1 : Fld Z h0 a "java/lang/String" "coder" "B" (.int (0 : Int32))) (F2 : Fld Z h0 a "java/lang/String" "value" "[B" .null) (na : n0 ≤ a) :
    ConHW l Z EL [] (⟨"java/lang/String", "<init>", "([C)V"⟩ : MethodName) jdk_42_method_3_code 2 none ({ frames := 2, cells := 4, slots := 8, locals := 29 } : Room) #[(.ref a), (.ref b)] h0 (fun v h L => v = none ∧ Fr n0 L ∧ Keep h0 h [a] ∧ Exa Z h a "java/lang/String" ∧ Fld Z h a "java/lang/String" "coder" "B" (.int (0 : Int32)) ∧ ∃ d kd, Fld Z h a "java/lang/String" "value" "[B" (.ref d) ∧ Arv Z h d kd .byte (0 : Int32) [] (.int (0 : Int32))) := by
  refine conOfH (plainFor_of_name pn_java_lang_String) ?_
  intro p e s m below mth cc s₁ X0 hx hby hml hown hnm hret hlk hZ e0 hS RR0
  have N0 := Fr.nil n0
  have hEL := elW hw
  have K0 := Keep.refl h0 ([a] : List Addr)
  have sfa := safe_of_null (EL := EL) hZ.alike A F2
  refine Fin.came (castTop (t := _) (by first | (simp [entryFrame, mkF, argsToLocals, Value.category]; done) | rfl) (Steps.refl _) : Steps p.tables e below (s₁.setTop (entryFrame m #[(.ref a), (.ref b)] 2)) (s₁.setTop (mkF m 0 #[.val (.ref a), .val (.ref b)] []))) ?_
  show Fin _ p e below s _ _ _ s₁ (mkF m 0 #[.val (.ref a), .val (.ref b)] [])
  refine Fin.go (fun _ k => XS.aloadN X0.here hx rfl (hb hby d2_0) rfl rfl k) ?_
  refine Fin.go (fun _ k => XS.aloadN X0.here hx rfl (hb hby d2_1) rfl rfl k) ?_
  refine Fin.go (fun _ k => XS.iconst X0.here hx rfl (hb hby d2_2) k) ?_
  refine Fin.go (fun _ k => XS.aloadN X0.here hx rfl (hb hby d2_3) rfl rfl k) ?_
  show Fin _ p e below s _ _ _ s₁ (mkF m 4 #[.val (.ref a), .val (.ref b)] [(.ref b), (.int (0 : Int32)), (.ref b), (.ref a)])
  obtain ⟨c11, B11, q11, S11, M11, H11, G11⟩ := id VB
  refine Fin.go (fun _ k => X0.arraylength hx (by rw [e0]; exact B11.1) (State.isArrayOf_alike hZ.alike B11.2.1) (g := (mkF m 4 #[.val (.ref a), .val (.ref b)] [(.ref b), (.int (0 : Int32)), (.ref b), (.ref a)])) rfl rfl (hb hby d2_4) _ k) ?_
  rw [len_of S11 M11]
  show Fin _ p e below s _ _ _ s₁ (mkF m 5 #[.val (.ref a), .val (.ref b)] [(.int (0 : Int32)), (.int (0 : Int32)), (.ref b), (.ref a)])
  refine Fin.go (fun _ k => XS.aconstNull X0.here hx rfl (hb hby d2_5) k) ?_
  obtain ⟨v12, T12, L12, X12, hS12, hZ12, hown12, RC12, q12, st12⟩ := callCtH X0 hx hZ (y := (⟨"java/lang/String", "<init>", "([CIILjava/lang/Void;)V"⟩ : MethodName)) rfl hown (hw _ w_13) (hw _ w_14) (hw _ w_8) (hw _ w_16) (by decide) (W := 0) (rmStrV0 l Z a0 hw n0 h0 O a b kb VB A F1 F2 na) e0 hS (Nat.zero_le _) hEL RR0.1 (by decide) (by decide) (by decide) (by decide) (g := (mkF m 6 #[.val (.ref a), .val (.ref b)] [.null, (.int (0 : Int32)), (.int (0 : Int32)), (.ref b), (.ref a)])) rfl (by rw [hml]; rfl) (a := a) (argsL := [(.ref b), (.int (0 : Int32)), (.int (0 : Int32)), .null]) (rest := []) (lenOf pd_oACIILjava_lang_Void_cV rfl) rfl (by show 2 * 0 + _ ≤ _; exact Nat.le_of_eq rfl) (hb hby d2_6)
  obtain ⟨rfl, Nq12, Kq12, A12, C12, d12, kd12, F12, V12⟩ := q12
  have N12 := Fr.app N0 Nq12
  have O12 := O.keep Kq12 (allS na all0)
  have K12 := K0.trans Kq12 (allS (Or.inl (List.mem_of_getElem? (i := 0) rfl)) all0)
  have RR12 := RR0.trans RC12
  refine Fin.go st12 ?_
  show Fin _ p e below s _ _ _ T12 (mkF m 9 #[.val (.ref a), .val (.ref b)] [])
  exact Fin.leaveH X12 hS12 (Nat.le_refl T12.heap.size) hZ12 hEL (rfl : T12.heap = T12.heap) RR12 hlk (v := none) (fun _ => rfl) (by decide) (by decide) ⟨rfl, N12, K12, A12, C12, d12, kd12, F12, V12⟩ (fun fs hr => X12.returnOut hx hret (hb hby d2_9) hr)
set_option maxRecDepth 65536 in
set_option maxHeartbeats 40000000 in
theorem rmEqB00 (l : Launch) (Z : State) (a0 : Array Value) (hw : ∀ d ∈ tables_1, d.before a0 Z = true) (n0 : Nat) (h0 : Heap) (O : Old Z n0 h0) (d1 d2 : Addr) (k1 k2 : ClassId)  (V1 : Arv Z h0 d1 k1 .byte (0 : Int32) [] (.int (0 : Int32))) (V2 : Arv Z h0 d2 k2 .byte (0 : Int32) [] (.int (0 : Int32))) :
    ConW FrameEnd l Z [] (⟨"java/lang/StringLatin1", "equals", "([B[B)Z"⟩ : MethodName) jdk_43_method_13_code 3 (some .boolean) ({ frames := 0, cells := 0, slots := 0, locals := 0 } : Room) #[(.ref d1), (.ref d2)] h0 (Pure h0 (some (.int (if ([] : List Int32) = [] then (1 : Int32) else 0)))) := by
  refine conOf (plainFor_of_name pn_java_lang_StringLatin1) ?_
  intro p e s m below mth cc s₁ X0 hx hby hml hown hnm hret hlk hZ e0
  have N0 := Fr.nil n0
  refine Fin.came (castTop (t := _) (by first | (simp [entryFrame, mkF, argsToLocals, Value.category]; done) | rfl) (Steps.refl _) : Steps p.tables e below (s₁.setTop (entryFrame m #[(.ref d1), (.ref d2)] 3)) (s₁.setTop (mkF m 0 #[.val (.ref d1), .val (.ref d2), .unset] []))) ?_
  show Fin _ p e below s _ _ _ s₁ (mkF m 0 #[.val (.ref d1), .val (.ref d2), .unset] [])
  refine Fin.go (fun _ k => XS.aloadN X0.here hx rfl (hb hby d14_0) rfl rfl k) ?_
  obtain ⟨c11, B11, q11, S11, M11, H11, G11⟩ := id V1
  refine Fin.go (fun _ k => X0.arraylength hx (by rw [e0]; exact B11.1) (State.isArrayOf_alike hZ.alike B11.2.1) (g := (mkF m 1 #[.val (.ref d1), .val (.ref d2), .unset] [(.ref d1)])) rfl rfl (hb hby d14_1) _ k) ?_
  rw [len_of S11 M11]
  show Fin _ p e below s _ _ _ s₁ (mkF m 2 #[.val (.ref d1), .val (.ref d2), .unset] [(.int (0 : Int32))])
  refine Fin.go (fun _ k => XS.aloadN X0.here hx rfl (hb hby d14_2) rfl rfl k) ?_
  obtain ⟨c12, B12, q12, S12, M12, H12, G12⟩ := id V2
  refine Fin.go (fun _ k => X0.arraylength hx (by rw [e0]; exact B12.1) (State.isArrayOf_alike hZ.alike B12.2.1) (g := (mkF m 3 #[.val (.ref d1), .val (.ref d2), .unset] [(.ref d2), (.int (0 : Int32))])) rfl rfl (hb hby d14_3) _ k) ?_
  rw [len_of S12 M12]
  show Fin _ p e below s _ _ _ s₁ (mkF m 4 #[.val (.ref d1), .val (.ref d2), .unset] [(.int (0 : Int32)), (.int (0 : Int32))])
  refine Fin.go (fun _ k => XS.icmpNo X0.here hx rfl (hb hby d14_4) rfl (XT.ii_ne_f (by decide)) k) ?_
  show Fin _ p e below s _ _ _ s₁ (mkF m 7 #[.val (.ref d1), .val (.ref d2), .unset] [])
  refine Fin.go (fun _ k => XS.iconst X0.here hx rfl (hb hby d14_7) k) ?_
  refine Fin.go (fun _ k => XS.istoreN X0.here hx rfl (hb hby d14_8) rfl (l' := #[.val (.ref d1), .val (.ref d2), .val (.int (0 : Int32))]) rfl k) ?_
  refine Fin.go (fun _ k => XS.iloadN X0.here hx rfl (hb hby d14_9) rfl k) ?_
  refine Fin.go (fun _ k => XS.aloadN X0.here hx rfl (hb hby d14_10) rfl rfl k) ?_
  show Fin _ p e below s _ _ _ s₁ (mkF m 11 #[.val (.ref d1), .val (.ref d2), .val (.int (0 : Int32))] [(.ref d1), (.int (0 : Int32))])
  obtain ⟨c13, B13, q13, S13, M13, H13, G13⟩ := id V1
  refine Fin.go (fun _ k => X0.arraylength hx (by rw [e0]; exact B13.1) (State.isArrayOf_alike hZ.alike B13.2.1) (g := (mkF m 11 #[.val (.ref d1), .val (.ref d2), .val (.int (0 : Int32))] [(.ref d1), (.int (0 : Int32))])) rfl rfl (hb hby d14_11) _ k) ?_
  rw [len_of S13 M13]
  show Fin _ p e below s _ _ _ s₁ (mkF m 12 #[.val (.ref d1), .val (.ref d2), .val (.int (0 : Int32))] [(.int (0 : Int32)), (.int (0 : Int32))])
  refine Fin.go (fun _ k => XS.icmpYes X0.here hx rfl (pc0 := 12) (pc' := 32) rfl (hb hby d14_12) rfl (XT.ii_ge_t (by decide)) (by decide) (by decide) k) ?_
  show Fin _ p e below s _ _ _ s₁ (mkF m 32 #[.val (.ref d1), .val (.ref d2), .val (.int (0 : Int32))] [])
  refine Fin.go (fun _ k => XS.iconst X0.here hx rfl (hb hby d14_32) k) ?_
  exact Fin.leaveN X0 e0 hlk (v := some (.int (nar .boolean (1 : Int32)))) (fun h => by rw [hret] at h; cases h) (by decide) (by decide) ⟨by simp [nar], rfl, rfl⟩ (fun fs hr => retN X0 hx (t := .boolean) hret (by simp) (hb hby d14_33) hr)
set_option maxRecDepth 65536 in
set_option maxHeartbeats 40000000 in
theorem rmEq00 (l : Launch) (Z : State) (a0 : Array Value) (hw : ∀ d ∈ tables_1, d.before a0 Z = true) (n0 : Nat) (h0 : Heap) (O : Old Z n0 h0) (a b d1 d2 : Addr) (k1 k2 : ClassId)  (cs : Int32) (S_cs : Sta Z Z.heap "java/lang/String" "COMPACT_STRINGS" "Z" (.int cs)) (hcs : ¬ cs = 0) (nab : a ≠ b) (A : Exa Z h0 a "java/lang/String") (B : Exa Z h0 b "java/lang/String") (C1 : Fld Z h0 a "java/lang/String" "coder" "B" (.int (0 : Int32))) (C2 : Fld Z h0 b "java/lang/String" "coder" "B" (.int (0 : Int32))) (F1 : Fld Z h0 a "java/lang/String" "value" "[B" (.ref d1)) (F2 : Fld Z h0 b "java/lang/String" "value" "[B" (.ref d2)) (V1 : Arv Z h0 d1 k1 .byte (0 : Int32) [] (.int (0 : Int32))) (V2 : Arv Z h0 d2 k2 .byte (0 : Int32) [] (.int (0 : Int32))) :
    ConW FrameEnd l Z [] (⟨"java/lang/String", "equals", "(Ljava/lang/Object;)Z"⟩ : MethodName) jdk_42_method_66_code 3 (some .boolean) ({ frames := 1, cells := 0, slots := 0, locals := 14 } : Room) #[(.ref a), (.ref b)] h0 (Pure h0 (some (.int (if ([] : List Int32) = [] then (1 : Int32) else 0)))) := by
  refine conOf (plainFor_of_name pn_java_lang_String) ?_
  intro p e s m below mth cc s₁ X0 hx hby hml hown hnm hret hlk hZ e0
  have N0 := Fr.nil n0
  refine Fin.came (castTop (t := _) (by first | (simp [entryFrame, mkF, argsToLocals, Value.category]; done) | rfl) (Steps.refl _) : Steps p.tables e below (s₁.setTop (entryFrame m #[(.ref a), (.ref b)] 3)) (s₁.setTop (mkF m 0 #[.val (.ref a), .val (.ref b), .unset] []))) ?_
  show Fin _ p e below s _ _ _ s₁ (mkF m 0 #[.val (.ref a), .val (.ref b), .unset] [])
  refine Fin.go (fun _ k => XS.aloadN X0.here hx rfl (hb hby d13_0) rfl rfl k) ?_
  refine Fin.go (fun _ k => XS.aloadN X0.here hx rfl (hb hby d13_1) rfl rfl k) ?_
  refine Fin.go (fun _ k => XT.acmpYes X0.here hx rfl (pc0 := 2) (pc' := 7) rfl (hb hby d13_2) rfl rfl rfl (XT.aa_ne_t (fun q => nab (Value.ref.inj q))) (by decide) (by decide) k) ?_
  show Fin _ p e below s _ _ _ s₁ (mkF m 7 #[.val (.ref a), .val (.ref b), .unset] [])
  refine Fin.go (fun _ k => XS.aloadN X0.here hx rfl (hb hby d13_7) rfl rfl k) ?_
  obtain ⟨T11, X11, e11, st11⟩ := instY X0 hx hZ hown (hw _ w_102) e0 (Ins.self B) (g := (mkF m 8 #[.val (.ref a), .val (.ref b), .unset] [(.ref b)])) rfl rfl (hb hby d13_8)
  refine Fin.go st11 ?_
  refine Fin.go (fun _ k => XS.ifNo X11.here hx rfl (hb hby d13_11) rfl (XT.i0_eq_f (by decide)) k) ?_
  show Fin _ p e below s _ _ _ T11 (mkF m 14 #[.val (.ref a), .val (.ref b), .unset] [])
  refine Fin.go (fun _ k => XS.aloadN X11.here hx rfl (hb hby d13_14) rfl rfl k) ?_
  obtain ⟨T12, X12, e12, st12⟩ := castY X11 hx hZ hown (hw _ w_102) e11 (Ins.self B) (g := (mkF m 15 #[.val (.ref a), .val (.ref b), .unset] [(.ref b)])) rfl rfl (hb hby d13_15)
  refine Fin.go st12 ?_
  refine Fin.go (fun _ k => XS.astoreN X12.here hx rfl (hb hby d13_18) rfl rfl (l' := #[.val (.ref a), .val (.ref b), .val (.ref b)]) rfl k) ?_
  obtain ⟨T13, X13, e13, st13⟩ := getS2 X12 hx hZ hown (host := "") (Or.inl (hw _ w_103)) Via.refl e12 (S_cs.ext O.2) (g := (mkF m 19 #[.val (.ref a), .val (.ref b), .val (.ref b)] [])) rfl (hb hby d13_19)
  refine Fin.go st13 ?_
  show Fin _ p e below s _ _ _ T13 (mkF m 22 #[.val (.ref a), .val (.ref b), .val (.ref b)] [(.int cs)])
  refine Fin.go (fun _ k => XS.ifNo X13.here hx rfl (hb hby d13_22) rfl (XT.i0_eq_f hcs) k) ?_
  show Fin _ p e below s _ _ _ T13 (mkF m 25 #[.val (.ref a), .val (.ref b), .val (.ref b)] [])
  refine Fin.go (fun _ k => XS.aloadN X13.here hx rfl (hb hby d13_25) rfl rfl k) ?_
  obtain ⟨T14, X14, e14, st14⟩ := getF X13 hx hZ hown (host := "") (Or.inl (hw _ w_27)) Via.refl e13 C1 (g := (mkF m 26 #[.val (.ref a), .val (.ref b), .val (.ref b)] [(.ref a)])) rfl rfl (hb hby d13_26)
  refine Fin.go st14 ?_
  show Fin _ p e below s _ _ _ T14 (mkF m 29 #[.val (.ref a), .val (.ref b), .val (.ref b)] [(.int (0 : Int32))])
  refine Fin.go (fun _ k => XS.aloadN X14.here hx rfl (hb hby d13_29) rfl rfl k) ?_
  obtain ⟨T15, X15, e15, st15⟩ := getF X14 hx hZ hown (host := "") (Or.inl (hw _ w_27)) Via.refl e14 C2 (g := (mkF m 30 #[.val (.ref a), .val (.ref b), .val (.ref b)] [(.ref b), (.int (0 : Int32))])) rfl rfl (hb hby d13_30)
  refine Fin.go st15 ?_
  show Fin _ p e below s _ _ _ T15 (mkF m 33 #[.val (.ref a), .val (.ref b), .val (.ref b)] [(.int (0 : Int32)), (.int (0 : Int32))])
  refine Fin.go (fun _ k => XS.icmpNo X15.here hx rfl (hb hby d13_33) rfl (XT.ii_ne_f (by decide)) k) ?_
  show Fin _ p e below s _ _ _ T15 (mkF m 36 #[.val (.ref a), .val (.ref b), .val (.ref b)] [])
  refine Fin.go (fun _ k => XS.aloadN X15.here hx rfl (hb hby d13_36) rfl rfl k) ?_
  obtain ⟨T16, X16, e16, st16⟩ := getF X15 hx hZ hown (host := "") (Or.inl (hw _ w_26)) Via.refl e15 F1 (g := (mkF m 37 #[.val (.ref a), .val (.ref b), .val (.ref b)] [(.ref a)])) rfl rfl (hb hby d13_37)
  refine Fin.go st16 ?_
  show Fin _ p e below s _ _ _ T16 (mkF m 40 #[.val (.ref a), .val (.ref b), .val (.ref b)] [(.ref d1)])
  refine Fin.go (fun _ k => XS.aloadN X16.here hx rfl (hb hby d13_40) rfl rfl k) ?_
  obtain ⟨T17, X17, e17, st17⟩ := getF X16 hx hZ hown (host := "") (Or.inl (hw _ w_26)) Via.refl e16 F2 (g := (mkF m 41 #[.val (.ref a), .val (.ref b), .val (.ref b)] [(.ref b), (.ref d1)])) rfl rfl (hb hby d13_41)
  refine Fin.go st17 ?_
  show Fin _ p e below s _ _ _ T17 (mkF m 44 #[.val (.ref a), .val (.ref b), .val (.ref b)] [(.ref d2), (.ref d1)])
  obtain ⟨v18, T18, L18, X18, q18, st18⟩ := callSt X17 hx hZ (y := (⟨"java/lang/StringLatin1", "equals", "([B[B)Z"⟩ : MethodName)) hown (hw _ w_104) (hw _ w_105) (hw _ w_106) (hw _ w_107) (by decide) (W := 0) (rmEqB00 l Z a0 hw n0 h0 O d1 d2 k1 k2  V1 V2) e17 (by decide) (by decide) (by decide) (by decide) (g := (mkF m 44 #[.val (.ref a), .val (.ref b), .val (.ref b)] [(.ref d2), (.ref d1)])) rfl (by rw [hml]; rfl) (argsL := [(.ref d1), (.ref d2)]) (rest := []) (lenOf pd_oABABcZ rfl) rfl (by show 2 * 0 + _ ≤ _; exact Nat.le_of_eq rfl) (hb hby d13_44)
  obtain ⟨rfl, e18, rfl⟩ := q18
  have N18 := Fr.app N0 (Fr.nil n0)
  refine Fin.go st18 ?_
  show Fin _ p e below s _ _ _ T18 (mkF m 47 #[.val (.ref a), .val (.ref b), .val (.ref b)] [(.int (if ([] : List Int32) = [] then (1 : Int32) else 0))])
  by_cases c47 : (if ([] : List Int32) = [] then (1 : Int32) else 0) = 0
  · refine Fin.go (fun _ k => XS.ifYes X18.here hx rfl (pc0 := 47) (pc' := 54) rfl (hb hby d13_47) rfl (XT.i0_eq_t c47) (by decide) (by decide) k) ?_
    show Fin _ p e below s _ _ _ T18 (mkF m 54 #[.val (.ref a), .val (.ref b), .val (.ref b)] [])
    refine Fin.go (fun _ k => XS.iconst X18.here hx rfl (hb hby d13_54) k) ?_
    exact Fin.leaveN X18 e18 hlk (v := some (.int (nar .boolean (0 : Int32)))) (fun h => by rw [hret] at h; cases h) (by decide) (by decide) ⟨by simp_all [nar], rfl, rfl⟩ (fun fs hr => retN X18 hx (t := .boolean) hret (by simp) (hb hby d13_55) hr)
  · refine Fin.go (fun _ k => XS.ifNo X18.here hx rfl (hb hby d13_47) rfl (XT.i0_eq_f c47) k) ?_
    show Fin _ p e below s _ _ _ T18 (mkF m 50 #[.val (.ref a), .val (.ref b), .val (.ref b)] [])
    refine Fin.go (fun _ k => XS.iconst X18.here hx rfl (hb hby d13_50) k) ?_
    refine Fin.go (fun _ k => XS.goto X18.here hx rfl (pc0 := 51) (pc' := 55) rfl (hb hby d13_51) (by decide) (by decide) k) ?_
    exact Fin.leaveN X18 e18 hlk (v := some (.int (nar .boolean (1 : Int32)))) (fun h => by rw [hret] at h; cases h) (by decide) (by decide) ⟨by simp_all [nar], rfl, rfl⟩ (fun fs hr => retN X18 hx (t := .boolean) hret (by simp) (hb hby d13_55) hr)
set_option maxRecDepth 65536 in
set_option maxHeartbeats 40000000 in
theorem rmEqB01 (l : Launch) (Z : State) (a0 : Array Value) (hw : ∀ d ∈ tables_1, d.before a0 Z = true) (n0 : Nat) (h0 : Heap) (O : Old Z n0 h0) (d1 d2 : Addr) (k1 k2 : ClassId) (y1 : Int32) (V1 : Arv Z h0 d1 k1 .byte (0 : Int32) [] (.int (0 : Int32))) (V2 : Arv Z h0 d2 k2 .byte (1 : Int32) [(.int ((Int32.toInt8 y1).toInt32))] (.int (0 : Int32))) :
    ConW FrameEnd l Z [] (⟨"java/lang/StringLatin1", "equals", "([B[B)Z"⟩ : MethodName) jdk_43_method_13_code 3 (some .boolean) ({ frames := 0, cells := 0, slots := 0, locals := 0 } : Room) #[(.ref d1), (.ref d2)] h0 (Pure h0 (some (.int (if ([] : List Int32) = [((Int32.toInt8 y1).toInt32)] then (1 : Int32) else 0)))) := by
  refine conOf (plainFor_of_name pn_java_lang_StringLatin1) ?_
  intro p e s m below mth cc s₁ X0 hx hby hml hown hnm hret hlk hZ e0
  have N0 := Fr.nil n0
  refine Fin.came (castTop (t := _) (by first | (simp [entryFrame, mkF, argsToLocals, Value.category]; done) | rfl) (Steps.refl _) : Steps p.tables e below (s₁.setTop (entryFrame m #[(.ref d1), (.ref d2)] 3)) (s₁.setTop (mkF m 0 #[.val (.ref d1), .val (.ref d2), .unset] []))) ?_
  show Fin _ p e below s _ _ _ s₁ (mkF m 0 #[.val (.ref d1), .val (.ref d2), .unset] [])
  refine Fin.go (fun _ k => XS.aloadN X0.here hx rfl (hb hby d14_0) rfl rfl k) ?_
  obtain ⟨c11, B11, q11, S11, M11, H11, G11⟩ := id V1
  refine Fin.go (fun _ k => X0.arraylength hx (by rw [e0]; exact B11.1) (State.isArrayOf_alike hZ.alike B11.2.1) (g := (mkF m 1 #[.val (.ref d1), .val (.ref d2), .unset] [(.ref d1)])) rfl rfl (hb hby d14_1) _ k) ?_
  rw [len_of S11 M11]
  show Fin _ p e below s _ _ _ s₁ (mkF m 2 #[.val (.ref d1), .val (.ref d2), .unset] [(.int (0 : Int32))])
  refine Fin.go (fun _ k => XS.aloadN X0.here hx rfl (hb hby d14_2) rfl rfl k) ?_
  obtain ⟨c12, B12, q12, S12, M12, H12, G12⟩ := id V2
  refine Fin.go (fun _ k => X0.arraylength hx (by rw [e0]; exact B12.1) (State.isArrayOf_alike hZ.alike B12.2.1) (g := (mkF m 3 #[.val (.ref d1), .val (.ref d2), .unset] [(.ref d2), (.int (0 : Int32))])) rfl rfl (hb hby d14_3) _ k) ?_
  rw [len_of S12 M12]
  show Fin _ p e below s _ _ _ s₁ (mkF m 4 #[.val (.ref d1), .val (.ref d2), .unset] [(.int (1 : Int32)), (.int (0 : Int32))])
  refine Fin.go (fun _ k => XS.icmpYes X0.here hx rfl (pc0 := 4) (pc' := 34) rfl (hb hby d14_4) rfl (XT.ii_ne_t (by decide)) (by decide) (by decide) k) ?_
  show Fin _ p e below s _ _ _ s₁ (mkF m 34 #[.val (.ref d1), .val (.ref d2), .unset] [])
  refine Fin.go (fun _ k => XS.iconst X0.here hx rfl (hb hby d14_34) k) ?_
  exact Fin.leaveN X0 e0 hlk (v := some (.int (nar .boolean (0 : Int32)))) (fun h => by rw [hret] at h; cases h) (by decide) (by decide) ⟨by simp [nar], rfl, rfl⟩ (fun fs hr => retN X0 hx (t := .boolean) hret (by simp) (hb hby d14_35) hr)
set_option maxRecDepth 65536 in
set_option maxHeartbeats 40000000 in
theorem rmEq01 (l : Launch) (Z : State) (a0 : Array Value) (hw : ∀ d ∈ tables_1, d.before a0 Z = true) (n0 : Nat) (h0 : Heap) (O : Old Z n0 h0) (a b d1 d2 : Addr) (k1 k2 : ClassId) (y1 : Int32) (cs : Int32) (S_cs : Sta Z Z.heap "java/lang/String" "COMPACT_STRINGS" "Z" (.int cs)) (hcs : ¬ cs = 0) (nab : a ≠ b) (A : Exa Z h0 a "java/lang/String") (B : Exa Z h0 b "java/lang/String") (C1 : Fld Z h0 a "java/lang/String" "coder" "B" (.int (0 : Int32))) (C2 : Fld Z h0 b "java/lang/String" "coder" "B" (.int (0 : Int32))) (F1 : Fld Z h0 a "java/lang/String" "value" "[B" (.ref d1)) (F2 : Fld Z h0 b "java/lang/String" "value" "[B" (.ref d2)) (V1 : Arv Z h0 d1 k1 .byte (0 : Int32) [] (.int (0 : Int32))) (V2 : Arv Z h0 d2 k2 .byte (1 : Int32) [(.int ((Int32.toInt8 y1).toInt32))] (.int (0 : Int32))) :
    ConW FrameEnd l Z [] (⟨"java/lang/String", "equals", "(Ljava/lang/Object;)Z"⟩ : MethodName) jdk_42_method_66_code 3 (some .boolean) ({ frames := 1, cells := 0, slots := 0, locals := 14 } : Room) #[(.ref a), (.ref b)] h0 (Pure h0 (some (.int (if ([] : List Int32) = [((Int32.toInt8 y1).toInt32)] then (1 : Int32) else 0)))) := by
  refine conOf (plainFor_of_name pn_java_lang_String) ?_
  intro p e s m below mth cc s₁ X0 hx hby hml hown hnm hret hlk hZ e0
  have N0 := Fr.nil n0
  refine Fin.came (castTop (t := _) (by first | (simp [entryFrame, mkF, argsToLocals, Value.category]; done) | rfl) (Steps.refl _) : Steps p.tables e below (s₁.setTop (entryFrame m #[(.ref a), (.ref b)] 3)) (s₁.setTop (mkF m 0 #[.val (.ref a), .val (.ref b), .unset] []))) ?_
  show Fin _ p e below s _ _ _ s₁ (mkF m 0 #[.val (.ref a), .val (.ref b), .unset] [])
  refine Fin.go (fun _ k => XS.aloadN X0.here hx rfl (hb hby d13_0) rfl rfl k) ?_
  refine Fin.go (fun _ k => XS.aloadN X0.here hx rfl (hb hby d13_1) rfl rfl k) ?_
  refine Fin.go (fun _ k => XT.acmpYes X0.here hx rfl (pc0 := 2) (pc' := 7) rfl (hb hby d13_2) rfl rfl rfl (XT.aa_ne_t (fun q => nab (Value.ref.inj q))) (by decide) (by decide) k) ?_
  show Fin _ p e below s _ _ _ s₁ (mkF m 7 #[.val (.ref a), .val (.ref b), .unset] [])
  refine Fin.go (fun _ k => XS.aloadN X0.here hx rfl (hb hby d13_7) rfl rfl k) ?_
  obtain ⟨T11, X11, e11, st11⟩ := instY X0 hx hZ hown (hw _ w_102) e0 (Ins.self B) (g := (mkF m 8 #[.val (.ref a), .val (.ref b), .unset] [(.ref b)])) rfl rfl (hb hby d13_8)
  refine Fin.go st11 ?_
  refine Fin.go (fun _ k => XS.ifNo X11.here hx rfl (hb hby d13_11) rfl (XT.i0_eq_f (by decide)) k) ?_
  show Fin _ p e below s _ _ _ T11 (mkF m 14 #[.val (.ref a), .val (.ref b), .unset] [])
  refine Fin.go (fun _ k => XS.aloadN X11.here hx rfl (hb hby d13_14) rfl rfl k) ?_
  obtain ⟨T12, X12, e12, st12⟩ := castY X11 hx hZ hown (hw _ w_102) e11 (Ins.self B) (g := (mkF m 15 #[.val (.ref a), .val (.ref b), .unset] [(.ref b)])) rfl rfl (hb hby d13_15)
  refine Fin.go st12 ?_
  refine Fin.go (fun _ k => XS.astoreN X12.here hx rfl (hb hby d13_18) rfl rfl (l' := #[.val (.ref a), .val (.ref b), .val (.ref b)]) rfl k) ?_
  obtain ⟨T13, X13, e13, st13⟩ := getS2 X12 hx hZ hown (host := "") (Or.inl (hw _ w_103)) Via.refl e12 (S_cs.ext O.2) (g := (mkF m 19 #[.val (.ref a), .val (.ref b), .val (.ref b)] [])) rfl (hb hby d13_19)
  refine Fin.go st13 ?_
  show Fin _ p e below s _ _ _ T13 (mkF m 22 #[.val (.ref a), .val (.ref b), .val (.ref b)] [(.int cs)])
  refine Fin.go (fun _ k => XS.ifNo X13.here hx rfl (hb hby d13_22) rfl (XT.i0_eq_f hcs) k) ?_
  show Fin _ p e below s _ _ _ T13 (mkF m 25 #[.val (.ref a), .val (.ref b), .val (.ref b)] [])
  refine Fin.go (fun _ k => XS.aloadN X13.here hx rfl (hb hby d13_25) rfl rfl k) ?_
  obtain ⟨T14, X14, e14, st14⟩ := getF X13 hx hZ hown (host := "") (Or.inl (hw _ w_27)) Via.refl e13 C1 (g := (mkF m 26 #[.val (.ref a), .val (.ref b), .val (.ref b)] [(.ref a)])) rfl rfl (hb hby d13_26)
  refine Fin.go st14 ?_
  show Fin _ p e below s _ _ _ T14 (mkF m 29 #[.val (.ref a), .val (.ref b), .val (.ref b)] [(.int (0 : Int32))])
  refine Fin.go (fun _ k => XS.aloadN X14.here hx rfl (hb hby d13_29) rfl rfl k) ?_
  obtain ⟨T15, X15, e15, st15⟩ := getF X14 hx hZ hown (host := "") (Or.inl (hw _ w_27)) Via.refl e14 C2 (g := (mkF m 30 #[.val (.ref a), .val (.ref b), .val (.ref b)] [(.ref b), (.int (0 : Int32))])) rfl rfl (hb hby d13_30)
  refine Fin.go st15 ?_
  show Fin _ p e below s _ _ _ T15 (mkF m 33 #[.val (.ref a), .val (.ref b), .val (.ref b)] [(.int (0 : Int32)), (.int (0 : Int32))])
  refine Fin.go (fun _ k => XS.icmpNo X15.here hx rfl (hb hby d13_33) rfl (XT.ii_ne_f (by decide)) k) ?_
  show Fin _ p e below s _ _ _ T15 (mkF m 36 #[.val (.ref a), .val (.ref b), .val (.ref b)] [])
  refine Fin.go (fun _ k => XS.aloadN X15.here hx rfl (hb hby d13_36) rfl rfl k) ?_
  obtain ⟨T16, X16, e16, st16⟩ := getF X15 hx hZ hown (host := "") (Or.inl (hw _ w_26)) Via.refl e15 F1 (g := (mkF m 37 #[.val (.ref a), .val (.ref b), .val (.ref b)] [(.ref a)])) rfl rfl (hb hby d13_37)
  refine Fin.go st16 ?_
  show Fin _ p e below s _ _ _ T16 (mkF m 40 #[.val (.ref a), .val (.ref b), .val (.ref b)] [(.ref d1)])
  refine Fin.go (fun _ k => XS.aloadN X16.here hx rfl (hb hby d13_40) rfl rfl k) ?_
  obtain ⟨T17, X17, e17, st17⟩ := getF X16 hx hZ hown (host := "") (Or.inl (hw _ w_26)) Via.refl e16 F2 (g := (mkF m 41 #[.val (.ref a), .val (.ref b), .val (.ref b)] [(.ref b), (.ref d1)])) rfl rfl (hb hby d13_41)
  refine Fin.go st17 ?_
  show Fin _ p e below s _ _ _ T17 (mkF m 44 #[.val (.ref a), .val (.ref b), .val (.ref b)] [(.ref d2), (.ref d1)])
  obtain ⟨v18, T18, L18, X18, q18, st18⟩ := callSt X17 hx hZ (y := (⟨"java/lang/StringLatin1", "equals", "([B[B)Z"⟩ : MethodName)) hown (hw _ w_104) (hw _ w_105) (hw _ w_106) (hw _ w_107) (by decide) (W := 0) (rmEqB01 l Z a0 hw n0 h0 O d1 d2 k1 k2 y1 V1 V2) e17 (by decide) (by decide) (by decide) (by decide) (g := (mkF m 44 #[.val (.ref a), .val (.ref b), .val (.ref b)] [(.ref d2), (.ref d1)])) rfl (by rw [hml]; rfl) (argsL := [(.ref d1), (.ref d2)]) (rest := []) (lenOf pd_oABABcZ rfl) rfl (by show 2 * 0 + _ ≤ _; exact Nat.le_of_eq rfl) (hb hby d13_44)
  obtain ⟨rfl, e18, rfl⟩ := q18
  have N18 := Fr.app N0 (Fr.nil n0)
  refine Fin.go st18 ?_
  show Fin _ p e below s _ _ _ T18 (mkF m 47 #[.val (.ref a), .val (.ref b), .val (.ref b)] [(.int (if ([] : List Int32) = [((Int32.toInt8 y1).toInt32)] then (1 : Int32) else 0))])
  by_cases c47 : (if ([] : List Int32) = [((Int32.toInt8 y1).toInt32)] then (1 : Int32) else 0) = 0
  · refine Fin.go (fun _ k => XS.ifYes X18.here hx rfl (pc0 := 47) (pc' := 54) rfl (hb hby d13_47) rfl (XT.i0_eq_t c47) (by decide) (by decide) k) ?_
    show Fin _ p e below s _ _ _ T18 (mkF m 54 #[.val (.ref a), .val (.ref b), .val (.ref b)] [])
    refine Fin.go (fun _ k => XS.iconst X18.here hx rfl (hb hby d13_54) k) ?_
    exact Fin.leaveN X18 e18 hlk (v := some (.int (nar .boolean (0 : Int32)))) (fun h => by rw [hret] at h; cases h) (by decide) (by decide) ⟨by simp_all [nar], rfl, rfl⟩ (fun fs hr => retN X18 hx (t := .boolean) hret (by simp) (hb hby d13_55) hr)
  · refine Fin.go (fun _ k => XS.ifNo X18.here hx rfl (hb hby d13_47) rfl (XT.i0_eq_f c47) k) ?_
    show Fin _ p e below s _ _ _ T18 (mkF m 50 #[.val (.ref a), .val (.ref b), .val (.ref b)] [])
    refine Fin.go (fun _ k => XS.iconst X18.here hx rfl (hb hby d13_50) k) ?_
    refine Fin.go (fun _ k => XS.goto X18.here hx rfl (pc0 := 51) (pc' := 55) rfl (hb hby d13_51) (by decide) (by decide) k) ?_
    exact Fin.leaveN X18 e18 hlk (v := some (.int (nar .boolean (1 : Int32)))) (fun h => by rw [hret] at h; cases h) (by decide) (by decide) ⟨by simp_all [nar], rfl, rfl⟩ (fun fs hr => retN X18 hx (t := .boolean) hret (by simp) (hb hby d13_55) hr)
set_option maxRecDepth 65536 in
set_option maxHeartbeats 40000000 in
theorem rmEqB02 (l : Launch) (Z : State) (a0 : Array Value) (hw : ∀ d ∈ tables_1, d.before a0 Z = true) (n0 : Nat) (h0 : Heap) (O : Old Z n0 h0) (d1 d2 : Addr) (k1 k2 : ClassId) (y1 y2 : Int32) (V1 : Arv Z h0 d1 k1 .byte (0 : Int32) [] (.int (0 : Int32))) (V2 : Arv Z h0 d2 k2 .byte (2 : Int32) [(.int ((Int32.toInt8 y1).toInt32)), (.int ((Int32.toInt8 y2).toInt32))] (.int (0 : Int32))) :
    ConW FrameEnd l Z [] (⟨"java/lang/StringLatin1", "equals", "([B[B)Z"⟩ : MethodName) jdk_43_method_13_code 3 (some .boolean) ({ frames := 0, cells := 0, slots := 0, locals := 0 } : Room) #[(.ref d1), (.ref d2)] h0 (Pure h0 (some (.int (if ([] : List Int32) = [((Int32.toInt8 y1).toInt32), ((Int32.toInt8 y2).toInt32)] then (1 : Int32) else 0)))) := by
  refine conOf (plainFor_of_name pn_java_lang_StringLatin1) ?_
  intro p e s m below mth cc s₁ X0 hx hby hml hown hnm hret hlk hZ e0
  have N0 := Fr.nil n0
  refine Fin.came (castTop (t := _) (by first | (simp [entryFrame, mkF, argsToLocals, Value.category]; done) | rfl) (Steps.refl _) : Steps p.tables e below (s₁.setTop (entryFrame m #[(.ref d1), (.ref d2)] 3)) (s₁.setTop (mkF m 0 #[.val (.ref d1), .val (.ref d2), .unset] []))) ?_
  show Fin _ p e below s _ _ _ s₁ (mkF m 0 #[.val (.ref d1), .val (.ref d2), .unset] [])
  refine Fin.go (fun _ k => XS.aloadN X0.here hx rfl (hb hby d14_0) rfl rfl k) ?_
  obtain ⟨c11, B11, q11, S11, M11, H11, G11⟩ := id V1
  refine Fin.go (fun _ k => X0.arraylength hx (by rw [e0]; exact B11.1) (State.isArrayOf_alike hZ.alike B11.2.1) (g := (mkF m 1 #[.val (.ref d1), .val (.ref d2), .unset] [(.ref d1)])) rfl rfl (hb hby d14_1) _ k) ?_
  rw [len_of S11 M11]
  show Fin _ p e below s _ _ _ s₁ (mkF m 2 #[.val (.ref d1), .val (.ref d2), .unset] [(.int (0 : Int32))])
  refine Fin.go (fun _ k => XS.aloadN X0.here hx rfl (hb hby d14_2) rfl rfl k) ?_
  obtain ⟨c12, B12, q12, S12, M12, H12, G12⟩ := id V2
  refine Fin.go (fun _ k => X0.arraylength hx (by rw [e0]; exact B12.1) (State.isArrayOf_alike hZ.alike B12.2.1) (g := (mkF m 3 #[.val (.ref d1), .val (.ref d2), .unset] [(.ref d2), (.int (0 : Int32))])) rfl rfl (hb hby d14_3) _ k) ?_
  rw [len_of S12 M12]
  show Fin _ p e below s _ _ _ s₁ (mkF m 4 #[.val (.ref d1), .val (.ref d2), .unset] [(.int (2 : Int32)), (.int (0 : Int32))])
  refine Fin.go (fun _ k => XS.icmpYes X0.here hx rfl (pc0 := 4) (pc' := 34) rfl (hb hby d14_4) rfl (XT.ii_ne_t (by decide)) (by decide) (by decide) k) ?_
  show Fin _ p e below s _ _ _ s₁ (mkF m 34 #[.val (.ref d1), .val (.ref d2), .unset] [])
  refine Fin.go (fun _ k => XS.iconst X0.here hx rfl (hb hby d14_34) k) ?_
  exact Fin.leaveN X0 e0 hlk (v := some (.int (nar .boolean (0 : Int32)))) (fun h => by rw [hret] at h; cases h) (by decide) (by decide) ⟨by simp [nar], rfl, rfl⟩ (fun fs hr => retN X0 hx (t := .boolean) hret (by simp) (hb hby d14_35) hr)
set_option maxRecDepth 65536 in
set_option maxHeartbeats 40000000 in
theorem rmEq02 (l : Launch) (Z : State) (a0 : Array Value) (hw : ∀ d ∈ tables_1, d.before a0 Z = true) (n0 : Nat) (h0 : Heap) (O : Old Z n0 h0) (a b d1 d2 : Addr) (k1 k2 : ClassId) (y1 y2 : Int32) (cs : Int32) (S_cs : Sta Z Z.heap "java/lang/String" "COMPACT_STRINGS" "Z" (.int cs)) (hcs : ¬ cs = 0) (nab : a ≠ b) (A : Exa Z h0 a "java/lang/String") (B : Exa Z h0 b "java/lang/String") (C1 : Fld Z h0 a "java/lang/String" "coder" "B" (.int (0 : Int32))) (C2 : Fld Z h0 b "java/lang/String" "coder" "B" (.int (0 : Int32))) (F1 : Fld Z h0 a "java/lang/String" "value" "[B" (.ref d1)) (F2 : Fld Z h0 b "java/lang/String" "value" "[B" (.ref d2)) (V1 : Arv Z h0 d1 k1 .byte (0 : Int32) [] (.int (0 : Int32))) (V2 : Arv Z h0 d2 k2 .byte (2 : Int32) [(.int ((Int32.toInt8 y1).toInt32)), (.int ((Int32.toInt8 y2).toInt32))] (.int (0 : Int32))) :
    ConW FrameEnd l Z [] (⟨"java/lang/String", "equals", "(Ljava/lang/Object;)Z"⟩ : MethodName) jdk_42_method_66_code 3 (some .boolean) ({ frames := 1, cells := 0, slots := 0, locals := 14 } : Room) #[(.ref a), (.ref b)] h0 (Pure h0 (some (.int (if ([] : List Int32) = [((Int32.toInt8 y1).toInt32), ((Int32.toInt8 y2).toInt32)] then (1 : Int32) else 0)))) := by
  refine conOf (plainFor_of_name pn_java_lang_String) ?_
  intro p e s m below mth cc s₁ X0 hx hby hml hown hnm hret hlk hZ e0
  have N0 := Fr.nil n0
  refine Fin.came (castTop (t := _) (by first | (simp [entryFrame, mkF, argsToLocals, Value.category]; done) | rfl) (Steps.refl _) : Steps p.tables e below (s₁.setTop (entryFrame m #[(.ref a), (.ref b)] 3)) (s₁.setTop (mkF m 0 #[.val (.ref a), .val (.ref b), .unset] []))) ?_
  show Fin _ p e below s _ _ _ s₁ (mkF m 0 #[.val (.ref a), .val (.ref b), .unset] [])
  refine Fin.go (fun _ k => XS.aloadN X0.here hx rfl (hb hby d13_0) rfl rfl k) ?_
  refine Fin.go (fun _ k => XS.aloadN X0.here hx rfl (hb hby d13_1) rfl rfl k) ?_
  refine Fin.go (fun _ k => XT.acmpYes X0.here hx rfl (pc0 := 2) (pc' := 7) rfl (hb hby d13_2) rfl rfl rfl (XT.aa_ne_t (fun q => nab (Value.ref.inj q))) (by decide) (by decide) k) ?_
  show Fin _ p e below s _ _ _ s₁ (mkF m 7 #[.val (.ref a), .val (.ref b), .unset] [])
  refine Fin.go (fun _ k => XS.aloadN X0.here hx rfl (hb hby d13_7) rfl rfl k) ?_
  obtain ⟨T11, X11, e11, st11⟩ := instY X0 hx hZ hown (hw _ w_102) e0 (Ins.self B) (g := (mkF m 8 #[.val (.ref a), .val (.ref b), .unset] [(.ref b)])) rfl rfl (hb hby d13_8)
  refine Fin.go st11 ?_
  refine Fin.go (fun _ k => XS.ifNo X11.here hx rfl (hb hby d13_11) rfl (XT.i0_eq_f (by decide)) k) ?_
  show Fin _ p e below s _ _ _ T11 (mkF m 14 #[.val (.ref a), .val (.ref b), .unset] [])
  refine Fin.go (fun _ k => XS.aloadN X11.here hx rfl (hb hby d13_14) rfl rfl k) ?_
  obtain ⟨T12, X12, e12, st12⟩ := castY X11 hx hZ hown (hw _ w_102) e11 (Ins.self B) (g := (mkF m 15 #[.val (.ref a), .val (.ref b), .unset] [(.ref b)])) rfl rfl (hb hby d13_15)
  refine Fin.go st12 ?_
  refine Fin.go (fun _ k => XS.astoreN X12.here hx rfl (hb hby d13_18) rfl rfl (l' := #[.val (.ref a), .val (.ref b), .val (.ref b)]) rfl k) ?_
  obtain ⟨T13, X13, e13, st13⟩ := getS2 X12 hx hZ hown (host := "") (Or.inl (hw _ w_103)) Via.refl e12 (S_cs.ext O.2) (g := (mkF m 19 #[.val (.ref a), .val (.ref b), .val (.ref b)] [])) rfl (hb hby d13_19)
  refine Fin.go st13 ?_
  show Fin _ p e below s _ _ _ T13 (mkF m 22 #[.val (.ref a), .val (.ref b), .val (.ref b)] [(.int cs)])
  refine Fin.go (fun _ k => XS.ifNo X13.here hx rfl (hb hby d13_22) rfl (XT.i0_eq_f hcs) k) ?_
  show Fin _ p e below s _ _ _ T13 (mkF m 25 #[.val (.ref a), .val (.ref b), .val (.ref b)] [])
  refine Fin.go (fun _ k => XS.aloadN X13.here hx rfl (hb hby d13_25) rfl rfl k) ?_
  obtain ⟨T14, X14, e14, st14⟩ := getF X13 hx hZ hown (host := "") (Or.inl (hw _ w_27)) Via.refl e13 C1 (g := (mkF m 26 #[.val (.ref a), .val (.ref b), .val (.ref b)] [(.ref a)])) rfl rfl (hb hby d13_26)
  refine Fin.go st14 ?_
  show Fin _ p e below s _ _ _ T14 (mkF m 29 #[.val (.ref a), .val (.ref b), .val (.ref b)] [(.int (0 : Int32))])
  refine Fin.go (fun _ k => XS.aloadN X14.here hx rfl (hb hby d13_29) rfl rfl k) ?_
  obtain ⟨T15, X15, e15, st15⟩ := getF X14 hx hZ hown (host := "") (Or.inl (hw _ w_27)) Via.refl e14 C2 (g := (mkF m 30 #[.val (.ref a), .val (.ref b), .val (.ref b)] [(.ref b), (.int (0 : Int32))])) rfl rfl (hb hby d13_30)
  refine Fin.go st15 ?_
  show Fin _ p e below s _ _ _ T15 (mkF m 33 #[.val (.ref a), .val (.ref b), .val (.ref b)] [(.int (0 : Int32)), (.int (0 : Int32))])
  refine Fin.go (fun _ k => XS.icmpNo X15.here hx rfl (hb hby d13_33) rfl (XT.ii_ne_f (by decide)) k) ?_
  show Fin _ p e below s _ _ _ T15 (mkF m 36 #[.val (.ref a), .val (.ref b), .val (.ref b)] [])
  refine Fin.go (fun _ k => XS.aloadN X15.here hx rfl (hb hby d13_36) rfl rfl k) ?_
  obtain ⟨T16, X16, e16, st16⟩ := getF X15 hx hZ hown (host := "") (Or.inl (hw _ w_26)) Via.refl e15 F1 (g := (mkF m 37 #[.val (.ref a), .val (.ref b), .val (.ref b)] [(.ref a)])) rfl rfl (hb hby d13_37)
  refine Fin.go st16 ?_
  show Fin _ p e below s _ _ _ T16 (mkF m 40 #[.val (.ref a), .val (.ref b), .val (.ref b)] [(.ref d1)])
  refine Fin.go (fun _ k => XS.aloadN X16.here hx rfl (hb hby d13_40) rfl rfl k) ?_
  obtain ⟨T17, X17, e17, st17⟩ := getF X16 hx hZ hown (host := "") (Or.inl (hw _ w_26)) Via.refl e16 F2 (g := (mkF m 41 #[.val (.ref a), .val (.ref b), .val (.ref b)] [(.ref b), (.ref d1)])) rfl rfl (hb hby d13_41)
  refine Fin.go st17 ?_
  show Fin _ p e below s _ _ _ T17 (mkF m 44 #[.val (.ref a), .val (.ref b), .val (.ref b)] [(.ref d2), (.ref d1)])
  obtain ⟨v18, T18, L18, X18, q18, st18⟩ := callSt X17 hx hZ (y := (⟨"java/lang/StringLatin1", "equals", "([B[B)Z"⟩ : MethodName)) hown (hw _ w_104) (hw _ w_105) (hw _ w_106) (hw _ w_107) (by decide) (W := 0) (rmEqB02 l Z a0 hw n0 h0 O d1 d2 k1 k2 y1 y2 V1 V2) e17 (by decide) (by decide) (by decide) (by decide) (g := (mkF m 44 #[.val (.ref a), .val (.ref b), .val (.ref b)] [(.ref d2), (.ref d1)])) rfl (by rw [hml]; rfl) (argsL := [(.ref d1), (.ref d2)]) (rest := []) (lenOf pd_oABABcZ rfl) rfl (by show 2 * 0 + _ ≤ _; exact Nat.le_of_eq rfl) (hb hby d13_44)
  obtain ⟨rfl, e18, rfl⟩ := q18
  have N18 := Fr.app N0 (Fr.nil n0)
  refine Fin.go st18 ?_
  show Fin _ p e below s _ _ _ T18 (mkF m 47 #[.val (.ref a), .val (.ref b), .val (.ref b)] [(.int (if ([] : List Int32) = [((Int32.toInt8 y1).toInt32), ((Int32.toInt8 y2).toInt32)] then (1 : Int32) else 0))])
  by_cases c47 : (if ([] : List Int32) = [((Int32.toInt8 y1).toInt32), ((Int32.toInt8 y2).toInt32)] then (1 : Int32) else 0) = 0
  · refine Fin.go (fun _ k => XS.ifYes X18.here hx rfl (pc0 := 47) (pc' := 54) rfl (hb hby d13_47) rfl (XT.i0_eq_t c47) (by decide) (by decide) k) ?_
    show Fin _ p e below s _ _ _ T18 (mkF m 54 #[.val (.ref a), .val (.ref b), .val (.ref b)] [])
    refine Fin.go (fun _ k => XS.iconst X18.here hx rfl (hb hby d13_54) k) ?_
    exact Fin.leaveN X18 e18 hlk (v := some (.int (nar .boolean (0 : Int32)))) (fun h => by rw [hret] at h; cases h) (by decide) (by decide) ⟨by simp_all [nar], rfl, rfl⟩ (fun fs hr => retN X18 hx (t := .boolean) hret (by simp) (hb hby d13_55) hr)
  · refine Fin.go (fun _ k => XS.ifNo X18.here hx rfl (hb hby d13_47) rfl (XT.i0_eq_f c47) k) ?_
    show Fin _ p e below s _ _ _ T18 (mkF m 50 #[.val (.ref a), .val (.ref b), .val (.ref b)] [])
    refine Fin.go (fun _ k => XS.iconst X18.here hx rfl (hb hby d13_50) k) ?_
    refine Fin.go (fun _ k => XS.goto X18.here hx rfl (pc0 := 51) (pc' := 55) rfl (hb hby d13_51) (by decide) (by decide) k) ?_
    exact Fin.leaveN X18 e18 hlk (v := some (.int (nar .boolean (1 : Int32)))) (fun h => by rw [hret] at h; cases h) (by decide) (by decide) ⟨by simp_all [nar], rfl, rfl⟩ (fun fs hr => retN X18 hx (t := .boolean) hret (by simp) (hb hby d13_55) hr)
set_option maxRecDepth 65536 in
set_option maxHeartbeats 40000000 in
theorem rmEqB10 (l : Launch) (Z : State) (a0 : Array Value) (hw : ∀ d ∈ tables_1, d.before a0 Z = true) (n0 : Nat) (h0 : Heap) (O : Old Z n0 h0) (d1 d2 : Addr) (k1 k2 : ClassId) (x1 : Int32) (V1 : Arv Z h0 d1 k1 .byte (1 : Int32) [(.int ((Int32.toInt8 x1).toInt32))] (.int (0 : Int32))) (V2 : Arv Z h0 d2 k2 .byte (0 : Int32) [] (.int (0 : Int32))) :
    ConW FrameEnd l Z [] (⟨"java/lang/StringLatin1", "equals", "([B[B)Z"⟩ : MethodName) jdk_43_method_13_code 3 (some .boolean) ({ frames := 0, cells := 0, slots := 0, locals := 0 } : Room) #[(.ref d1), (.ref d2)] h0 (Pure h0 (some (.int (if ([((Int32.toInt8 x1).toInt32)] : List Int32) = [] then (1 : Int32) else 0)))) := by
  refine conOf (plainFor_of_name pn_java_lang_StringLatin1) ?_
  intro p e s m below mth cc s₁ X0 hx hby hml hown hnm hret hlk hZ e0
  have N0 := Fr.nil n0
  refine Fin.came (castTop (t := _) (by first | (simp [entryFrame, mkF, argsToLocals, Value.category]; done) | rfl) (Steps.refl _) : Steps p.tables e below (s₁.setTop (entryFrame m #[(.ref d1), (.ref d2)] 3)) (s₁.setTop (mkF m 0 #[.val (.ref d1), .val (.ref d2), .unset] []))) ?_
  show Fin _ p e below s _ _ _ s₁ (mkF m 0 #[.val (.ref d1), .val (.ref d2), .unset] [])
  refine Fin.go (fun _ k => XS.aloadN X0.here hx rfl (hb hby d14_0) rfl rfl k) ?_
  obtain ⟨c11, B11, q11, S11, M11, H11, G11⟩ := id V1
  refine Fin.go (fun _ k => X0.arraylength hx (by rw [e0]; exact B11.1) (State.isArrayOf_alike hZ.alike B11.2.1) (g := (mkF m 1 #[.val (.ref d1), .val (.ref d2), .unset] [(.ref d1)])) rfl rfl (hb hby d14_1) _ k) ?_
  rw [len_of S11 M11]
  show Fin _ p e below s _ _ _ s₁ (mkF m 2 #[.val (.ref d1), .val (.ref d2), .unset] [(.int (1 : Int32))])
  refine Fin.go (fun _ k => XS.aloadN X0.here hx rfl (hb hby d14_2) rfl rfl k) ?_
  obtain ⟨c12, B12, q12, S12, M12, H12, G12⟩ := id V2
  refine Fin.go (fun _ k => X0.arraylength hx (by rw [e0]; exact B12.1) (State.isArrayOf_alike hZ.alike B12.2.1) (g := (mkF m 3 #[.val (.ref d1), .val (.ref d2), .unset] [(.ref d2), (.int (1 : Int32))])) rfl rfl (hb hby d14_3) _ k) ?_
  rw [len_of S12 M12]
  show Fin _ p e below s _ _ _ s₁ (mkF m 4 #[.val (.ref d1), .val (.ref d2), .unset] [(.int (0 : Int32)), (.int (1 : Int32))])
  refine Fin.go (fun _ k => XS.icmpYes X0.here hx rfl (pc0 := 4) (pc' := 34) rfl (hb hby d14_4) rfl (XT.ii_ne_t (by decide)) (by decide) (by decide) k) ?_
  show Fin _ p e below s _ _ _ s₁ (mkF m 34 #[.val (.ref d1), .val (.ref d2), .unset] [])
  refine Fin.go (fun _ k => XS.iconst X0.here hx rfl (hb hby d14_34) k) ?_
  exact Fin.leaveN X0 e0 hlk (v := some (.int (nar .boolean (0 : Int32)))) (fun h => by rw [hret] at h; cases h) (by decide) (by decide) ⟨by simp [nar], rfl, rfl⟩ (fun fs hr => retN X0 hx (t := .boolean) hret (by simp) (hb hby d14_35) hr)
set_option maxRecDepth 65536 in
set_option maxHeartbeats 40000000 in
theorem rmEq10 (l : Launch) (Z : State) (a0 : Array Value) (hw : ∀ d ∈ tables_1, d.before a0 Z = true) (n0 : Nat) (h0 : Heap) (O : Old Z n0 h0) (a b d1 d2 : Addr) (k1 k2 : ClassId) (x1 : Int32) (cs : Int32) (S_cs : Sta Z Z.heap "java/lang/String" "COMPACT_STRINGS" "Z" (.int cs)) (hcs : ¬ cs = 0) (nab : a ≠ b) (A : Exa Z h0 a "java/lang/String") (B : Exa Z h0 b "java/lang/String") (C1 : Fld Z h0 a "java/lang/String" "coder" "B" (.int (0 : Int32))) (C2 : Fld Z h0 b "java/lang/String" "coder" "B" (.int (0 : Int32))) (F1 : Fld Z h0 a "java/lang/String" "value" "[B" (.ref d1)) (F2 : Fld Z h0 b "java/lang/String" "value" "[B" (.ref d2)) (V1 : Arv Z h0 d1 k1 .byte (1 : Int32) [(.int ((Int32.toInt8 x1).toInt32))] (.int (0 : Int32))) (V2 : Arv Z h0 d2 k2 .byte (0 : Int32) [] (.int (0 : Int32))) :
    ConW FrameEnd l Z [] (⟨"java/lang/String", "equals", "(Ljava/lang/Object;)Z"⟩ : MethodName) jdk_42_method_66_code 3 (some .boolean) ({ frames := 1, cells := 0, slots := 0, locals := 14 } : Room) #[(.ref a), (.ref b)] h0 (Pure h0 (some (.int (if ([((Int32.toInt8 x1).toInt32)] : List Int32) = [] then (1 : Int32) else 0)))) := by
  refine conOf (plainFor_of_name pn_java_lang_String) ?_
  intro p e s m below mth cc s₁ X0 hx hby hml hown hnm hret hlk hZ e0
  have N0 := Fr.nil n0
  refine Fin.came (castTop (t := _) (by first | (simp [entryFrame, mkF, argsToLocals, Value.category]; done) | rfl) (Steps.refl _) : Steps p.tables e below (s₁.setTop (entryFrame m #[(.ref a), (.ref b)] 3)) (s₁.setTop (mkF m 0 #[.val (.ref a), .val (.ref b), .unset] []))) ?_
  show Fin _ p e below s _ _ _ s₁ (mkF m 0 #[.val (.ref a), .val (.ref b), .unset] [])
  refine Fin.go (fun _ k => XS.aloadN X0.here hx rfl (hb hby d13_0) rfl rfl k) ?_
  refine Fin.go (fun _ k => XS.aloadN X0.here hx rfl (hb hby d13_1) rfl rfl k) ?_
  refine Fin.go (fun _ k => XT.acmpYes X0.here hx rfl (pc0 := 2) (pc' := 7) rfl (hb hby d13_2) rfl rfl rfl (XT.aa_ne_t (fun q => nab (Value.ref.inj q))) (by decide) (by decide) k) ?_
  show Fin _ p e below s _ _ _ s₁ (mkF m 7 #[.val (.ref a), .val (.ref b), .unset] [])
  refine Fin.go (fun _ k => XS.aloadN X0.here hx rfl (hb hby d13_7) rfl rfl k) ?_
  obtain ⟨T11, X11, e11, st11⟩ := instY X0 hx hZ hown (hw _ w_102) e0 (Ins.self B) (g := (mkF m 8 #[.val (.ref a), .val (.ref b), .unset] [(.ref b)])) rfl rfl (hb hby d13_8)
  refine Fin.go st11 ?_
  refine Fin.go (fun _ k => XS.ifNo X11.here hx rfl (hb hby d13_11) rfl (XT.i0_eq_f (by decide)) k) ?_
  show Fin _ p e below s _ _ _ T11 (mkF m 14 #[.val (.ref a), .val (.ref b), .unset] [])
  refine Fin.go (fun _ k => XS.aloadN X11.here hx rfl (hb hby d13_14) rfl rfl k) ?_
  obtain ⟨T12, X12, e12, st12⟩ := castY X11 hx hZ hown (hw _ w_102) e11 (Ins.self B) (g := (mkF m 15 #[.val (.ref a), .val (.ref b), .unset] [(.ref b)])) rfl rfl (hb hby d13_15)
  refine Fin.go st12 ?_
  refine Fin.go (fun _ k => XS.astoreN X12.here hx rfl (hb hby d13_18) rfl rfl (l' := #[.val (.ref a), .val (.ref b), .val (.ref b)]) rfl k) ?_
  obtain ⟨T13, X13, e13, st13⟩ := getS2 X12 hx hZ hown (host := "") (Or.inl (hw _ w_103)) Via.refl e12 (S_cs.ext O.2) (g := (mkF m 19 #[.val (.ref a), .val (.ref b), .val (.ref b)] [])) rfl (hb hby d13_19)
  refine Fin.go st13 ?_
  show Fin _ p e below s _ _ _ T13 (mkF m 22 #[.val (.ref a), .val (.ref b), .val (.ref b)] [(.int cs)])
  refine Fin.go (fun _ k => XS.ifNo X13.here hx rfl (hb hby d13_22) rfl (XT.i0_eq_f hcs) k) ?_
  show Fin _ p e below s _ _ _ T13 (mkF m 25 #[.val (.ref a), .val (.ref b), .val (.ref b)] [])
  refine Fin.go (fun _ k => XS.aloadN X13.here hx rfl (hb hby d13_25) rfl rfl k) ?_
  obtain ⟨T14, X14, e14, st14⟩ := getF X13 hx hZ hown (host := "") (Or.inl (hw _ w_27)) Via.refl e13 C1 (g := (mkF m 26 #[.val (.ref a), .val (.ref b), .val (.ref b)] [(.ref a)])) rfl rfl (hb hby d13_26)
  refine Fin.go st14 ?_
  show Fin _ p e below s _ _ _ T14 (mkF m 29 #[.val (.ref a), .val (.ref b), .val (.ref b)] [(.int (0 : Int32))])
  refine Fin.go (fun _ k => XS.aloadN X14.here hx rfl (hb hby d13_29) rfl rfl k) ?_
  obtain ⟨T15, X15, e15, st15⟩ := getF X14 hx hZ hown (host := "") (Or.inl (hw _ w_27)) Via.refl e14 C2 (g := (mkF m 30 #[.val (.ref a), .val (.ref b), .val (.ref b)] [(.ref b), (.int (0 : Int32))])) rfl rfl (hb hby d13_30)
  refine Fin.go st15 ?_
  show Fin _ p e below s _ _ _ T15 (mkF m 33 #[.val (.ref a), .val (.ref b), .val (.ref b)] [(.int (0 : Int32)), (.int (0 : Int32))])
  refine Fin.go (fun _ k => XS.icmpNo X15.here hx rfl (hb hby d13_33) rfl (XT.ii_ne_f (by decide)) k) ?_
  show Fin _ p e below s _ _ _ T15 (mkF m 36 #[.val (.ref a), .val (.ref b), .val (.ref b)] [])
  refine Fin.go (fun _ k => XS.aloadN X15.here hx rfl (hb hby d13_36) rfl rfl k) ?_
  obtain ⟨T16, X16, e16, st16⟩ := getF X15 hx hZ hown (host := "") (Or.inl (hw _ w_26)) Via.refl e15 F1 (g := (mkF m 37 #[.val (.ref a), .val (.ref b), .val (.ref b)] [(.ref a)])) rfl rfl (hb hby d13_37)
  refine Fin.go st16 ?_
  show Fin _ p e below s _ _ _ T16 (mkF m 40 #[.val (.ref a), .val (.ref b), .val (.ref b)] [(.ref d1)])
  refine Fin.go (fun _ k => XS.aloadN X16.here hx rfl (hb hby d13_40) rfl rfl k) ?_
  obtain ⟨T17, X17, e17, st17⟩ := getF X16 hx hZ hown (host := "") (Or.inl (hw _ w_26)) Via.refl e16 F2 (g := (mkF m 41 #[.val (.ref a), .val (.ref b), .val (.ref b)] [(.ref b), (.ref d1)])) rfl rfl (hb hby d13_41)
  refine Fin.go st17 ?_
  show Fin _ p e below s _ _ _ T17 (mkF m 44 #[.val (.ref a), .val (.ref b), .val (.ref b)] [(.ref d2), (.ref d1)])
  obtain ⟨v18, T18, L18, X18, q18, st18⟩ := callSt X17 hx hZ (y := (⟨"java/lang/StringLatin1", "equals", "([B[B)Z"⟩ : MethodName)) hown (hw _ w_104) (hw _ w_105) (hw _ w_106) (hw _ w_107) (by decide) (W := 0) (rmEqB10 l Z a0 hw n0 h0 O d1 d2 k1 k2 x1 V1 V2) e17 (by decide) (by decide) (by decide) (by decide) (g := (mkF m 44 #[.val (.ref a), .val (.ref b), .val (.ref b)] [(.ref d2), (.ref d1)])) rfl (by rw [hml]; rfl) (argsL := [(.ref d1), (.ref d2)]) (rest := []) (lenOf pd_oABABcZ rfl) rfl (by show 2 * 0 + _ ≤ _; exact Nat.le_of_eq rfl) (hb hby d13_44)
  obtain ⟨rfl, e18, rfl⟩ := q18
  have N18 := Fr.app N0 (Fr.nil n0)
  refine Fin.go st18 ?_
  show Fin _ p e below s _ _ _ T18 (mkF m 47 #[.val (.ref a), .val (.ref b), .val (.ref b)] [(.int (if ([((Int32.toInt8 x1).toInt32)] : List Int32) = [] then (1 : Int32) else 0))])
  by_cases c47 : (if ([((Int32.toInt8 x1).toInt32)] : List Int32) = [] then (1 : Int32) else 0) = 0
  · refine Fin.go (fun _ k => XS.ifYes X18.here hx rfl (pc0 := 47) (pc' := 54) rfl (hb hby d13_47) rfl (XT.i0_eq_t c47) (by decide) (by decide) k) ?_
    show Fin _ p e below s _ _ _ T18 (mkF m 54 #[.val (.ref a), .val (.ref b), .val (.ref b)] [])
    refine Fin.go (fun _ k => XS.iconst X18.here hx rfl (hb hby d13_54) k) ?_
    exact Fin.leaveN X18 e18 hlk (v := some (.int (nar .boolean (0 : Int32)))) (fun h => by rw [hret] at h; cases h) (by decide) (by decide) ⟨by simp_all [nar], rfl, rfl⟩ (fun fs hr => retN X18 hx (t := .boolean) hret (by simp) (hb hby d13_55) hr)
  · refine Fin.go (fun _ k => XS.ifNo X18.here hx rfl (hb hby d13_47) rfl (XT.i0_eq_f c47) k) ?_
    show Fin _ p e below s _ _ _ T18 (mkF m 50 #[.val (.ref a), .val (.ref b), .val (.ref b)] [])
    refine Fin.go (fun _ k => XS.iconst X18.here hx rfl (hb hby d13_50) k) ?_
    refine Fin.go (fun _ k => XS.goto X18.here hx rfl (pc0 := 51) (pc' := 55) rfl (hb hby d13_51) (by decide) (by decide) k) ?_
    exact Fin.leaveN X18 e18 hlk (v := some (.int (nar .boolean (1 : Int32)))) (fun h => by rw [hret] at h; cases h) (by decide) (by decide) ⟨by simp_all [nar], rfl, rfl⟩ (fun fs hr => retN X18 hx (t := .boolean) hret (by simp) (hb hby d13_55) hr)
set_option maxRecDepth 65536 in
set_option maxHeartbeats 40000000 in
theorem rmEqB11 (l : Launch) (Z : State) (a0 : Array Value) (hw : ∀ d ∈ tables_1, d.before a0 Z = true) (n0 : Nat) (h0 : Heap) (O : Old Z n0 h0) (d1 d2 : Addr) (k1 k2 : ClassId) (x1 y1 : Int32) (V1 : Arv Z h0 d1 k1 .byte (1 : Int32) [(.int ((Int32.toInt8 x1).toInt32))] (.int (0 : Int32))) (V2 : Arv Z h0 d2 k2 .byte (1 : Int32) [(.int ((Int32.toInt8 y1).toInt32))] (.int (0 : Int32))) :
    ConW FrameEnd l Z [] (⟨"java/lang/StringLatin1", "equals", "([B[B)Z"⟩ : MethodName) jdk_43_method_13_code 3 (some .boolean) ({ frames := 0, cells := 0, slots := 0, locals := 0 } : Room) #[(.ref d1), (.ref d2)] h0 (Pure h0 (some (.int (if ([((Int32.toInt8 x1).toInt32)] : List Int32) = [((Int32.toInt8 y1).toInt32)] then (1 : Int32) else 0)))) := by
  refine conOf (plainFor_of_name pn_java_lang_StringLatin1) ?_
  intro p e s m below mth cc s₁ X0 hx hby hml hown hnm hret hlk hZ e0
  have N0 := Fr.nil n0
  refine Fin.came (castTop (t := _) (by first | (simp [entryFrame, mkF, argsToLocals, Value.category]; done) | rfl) (Steps.refl _) : Steps p.tables e below (s₁.setTop (entryFrame m #[(.ref d1), (.ref d2)] 3)) (s₁.setTop (mkF m 0 #[.val (.ref d1), .val (.ref d2), .unset] []))) ?_
  show Fin _ p e below s _ _ _ s₁ (mkF m 0 #[.val (.ref d1), .val (.ref d2), .unset] [])
  refine Fin.go (fun _ k => XS.aloadN X0.here hx rfl (hb hby d14_0) rfl rfl k) ?_
  obtain ⟨c11, B11, q11, S11, M11, H11, G11⟩ := id V1
  refine Fin.go (fun _ k => X0.arraylength hx (by rw [e0]; exact B11.1) (State.isArrayOf_alike hZ.alike B11.2.1) (g := (mkF m 1 #[.val (.ref d1), .val (.ref d2), .unset] [(.ref d1)])) rfl rfl (hb hby d14_1) _ k) ?_
  rw [len_of S11 M11]
  show Fin _ p e below s _ _ _ s₁ (mkF m 2 #[.val (.ref d1), .val (.ref d2), .unset] [(.int (1 : Int32))])
  refine Fin.go (fun _ k => XS.aloadN X0.here hx rfl (hb hby d14_2) rfl rfl k) ?_
  obtain ⟨c12, B12, q12, S12, M12, H12, G12⟩ := id V2
  refine Fin.go (fun _ k => X0.arraylength hx (by rw [e0]; exact B12.1) (State.isArrayOf_alike hZ.alike B12.2.1) (g := (mkF m 3 #[.val (.ref d1), .val (.ref d2), .unset] [(.ref d2), (.int (1 : Int32))])) rfl rfl (hb hby d14_3) _ k) ?_
  rw [len_of S12 M12]
  show Fin _ p e below s _ _ _ s₁ (mkF m 4 #[.val (.ref d1), .val (.ref d2), .unset] [(.int (1 : Int32)), (.int (1 : Int32))])
  refine Fin.go (fun _ k => XS.icmpNo X0.here hx rfl (hb hby d14_4) rfl (XT.ii_ne_f (by decide)) k) ?_
  show Fin _ p e below s _ _ _ s₁ (mkF m 7 #[.val (.ref d1), .val (.ref d2), .unset] [])
  refine Fin.go (fun _ k => XS.iconst X0.here hx rfl (hb hby d14_7) k) ?_
  refine Fin.go (fun _ k => XS.istoreN X0.here hx rfl (hb hby d14_8) rfl (l' := #[.val (.ref d1), .val (.ref d2), .val (.int (0 : Int32))]) rfl k) ?_
  refine Fin.go (fun _ k => XS.iloadN X0.here hx rfl (hb hby d14_9) rfl k) ?_
  refine Fin.go (fun _ k => XS.aloadN X0.here hx rfl (hb hby d14_10) rfl rfl k) ?_
  show Fin _ p e below s _ _ _ s₁ (mkF m 11 #[.val (.ref d1), .val (.ref d2), .val (.int (0 : Int32))] [(.ref d1), (.int (0 : Int32))])
  obtain ⟨c13, B13, q13, S13, M13, H13, G13⟩ := id V1
  refine Fin.go (fun _ k => X0.arraylength hx (by rw [e0]; exact B13.1) (State.isArrayOf_alike hZ.alike B13.2.1) (g := (mkF m 11 #[.val (.ref d1), .val (.ref d2), .val (.int (0 : Int32))] [(.ref d1), (.int (0 : Int32))])) rfl rfl (hb hby d14_11) _ k) ?_
  rw [len_of S13 M13]
  show Fin _ p e below s _ _ _ s₁ (mkF m 12 #[.val (.ref d1), .val (.ref d2), .val (.int (0 : Int32))] [(.int (1 : Int32)), (.int (0 : Int32))])
  refine Fin.go (fun _ k => XS.icmpNo X0.here hx rfl (hb hby d14_12) rfl (XT.ii_ge_f (by decide)) k) ?_
  show Fin _ p e below s _ _ _ s₁ (mkF m 15 #[.val (.ref d1), .val (.ref d2), .val (.int (0 : Int32))] [])
  refine Fin.go (fun _ k => XS.aloadN X0.here hx rfl (hb hby d14_15) rfl rfl k) ?_
  refine Fin.go (fun _ k => XS.iloadN X0.here hx rfl (hb hby d14_16) rfl k) ?_
  obtain ⟨c14, B14, q14, S14, M14, H14, G14⟩ := id V1
  have i14 := inb_of S14 ⟨(by decide : ¬ ((0 : Int32) < (0 : Int32))), (by decide : (0 : Int32) < (1 : Int32))⟩
  refine Fin.go (fun _ k => X0.baloadBytes hx (j := (0 : Int32)) (v := (.int ((Int32.toInt8 x1).toInt32))) (by rw [e0]; exact B14.1) (State.isArrayOf_alike hZ.alike B14.2.1) B14.2.2 i14 (Has.at H14 i14 rfl) (g := (mkF m 17 #[.val (.ref d1), .val (.ref d2), .val (.int (0 : Int32))] [(.int (0 : Int32)), (.ref d1)])) rfl rfl (hb hby d14_17) _ k) ?_
  show Fin _ p e below s _ _ _ s₁ (mkF m 18 #[.val (.ref d1), .val (.ref d2), .val (.int (0 : Int32))] [(.int ((Int32.toInt8 x1).toInt32))])
  refine Fin.go (fun _ k => XS.aloadN X0.here hx rfl (hb hby d14_18) rfl rfl k) ?_
  refine Fin.go (fun _ k => XS.iloadN X0.here hx rfl (hb hby d14_19) rfl k) ?_
  obtain ⟨c15, B15, q15, S15, M15, H15, G15⟩ := id V2
  have i15 := inb_of S15 ⟨(by decide : ¬ ((0 : Int32) < (0 : Int32))), (by decide : (0 : Int32) < (1 : Int32))⟩
  refine Fin.go (fun _ k => X0.baloadBytes hx (j := (0 : Int32)) (v := (.int ((Int32.toInt8 y1).toInt32))) (by rw [e0]; exact B15.1) (State.isArrayOf_alike hZ.alike B15.2.1) B15.2.2 i15 (Has.at H15 i15 rfl) (g := (mkF m 20 #[.val (.ref d1), .val (.ref d2), .val (.int (0 : Int32))] [(.int (0 : Int32)), (.ref d2), (.int ((Int32.toInt8 x1).toInt32))])) rfl rfl (hb hby d14_20) _ k) ?_
  show Fin _ p e below s _ _ _ s₁ (mkF m 21 #[.val (.ref d1), .val (.ref d2), .val (.int (0 : Int32))] [(.int ((Int32.toInt8 y1).toInt32)), (.int ((Int32.toInt8 x1).toInt32))])
  by_cases c21 : ((Int32.toInt8 x1).toInt32) = ((Int32.toInt8 y1).toInt32)
  · refine Fin.go (fun _ k => XS.icmpYes X0.here hx rfl (pc0 := 21) (pc' := 26) rfl (hb hby d14_21) rfl (XT.ii_eq_t c21) (by decide) (by decide) k) ?_
    show Fin _ p e below s _ _ _ s₁ (mkF m 26 #[.val (.ref d1), .val (.ref d2), .val (.int (0 : Int32))] [])
    refine Fin.go (fun _ k => XS.iinc X0.here hx rfl (hb hby d14_26) rfl (l' := #[.val (.ref d1), .val (.ref d2), .val (.int ((0 : Int32) + (1 : Int32)))]) rfl k) ?_
    refine Fin.go (fun _ k => XS.goto X0.here hx rfl (pc0 := 29) (pc' := 9) rfl (hb hby d14_29) (by decide) (by decide) k) ?_
    refine Fin.go (fun _ k => XS.iloadN X0.here hx rfl (hb hby d14_9) rfl k) ?_
    refine Fin.go (fun _ k => XS.aloadN X0.here hx rfl (hb hby d14_10) rfl rfl k) ?_
    show Fin _ p e below s _ _ _ s₁ (mkF m 11 #[.val (.ref d1), .val (.ref d2), .val (.int ((0 : Int32) + (1 : Int32)))] [(.ref d1), (.int ((0 : Int32) + (1 : Int32)))])
    obtain ⟨c16, B16, q16, S16, M16, H16, G16⟩ := id V1
    refine Fin.go (fun _ k => X0.arraylength hx (by rw [e0]; exact B16.1) (State.isArrayOf_alike hZ.alike B16.2.1) (g := (mkF m 11 #[.val (.ref d1), .val (.ref d2), .val (.int ((0 : Int32) + (1 : Int32)))] [(.ref d1), (.int ((0 : Int32) + (1 : Int32)))])) rfl rfl (hb hby d14_11) _ k) ?_
    rw [len_of S16 M16]
    show Fin _ p e below s _ _ _ s₁ (mkF m 12 #[.val (.ref d1), .val (.ref d2), .val (.int ((0 : Int32) + (1 : Int32)))] [(.int (1 : Int32)), (.int ((0 : Int32) + (1 : Int32)))])
    refine Fin.go (fun _ k => XS.icmpYes X0.here hx rfl (pc0 := 12) (pc' := 32) rfl (hb hby d14_12) rfl (XT.ii_ge_t (by decide)) (by decide) (by decide) k) ?_
    show Fin _ p e below s _ _ _ s₁ (mkF m 32 #[.val (.ref d1), .val (.ref d2), .val (.int ((0 : Int32) + (1 : Int32)))] [])
    refine Fin.go (fun _ k => XS.iconst X0.here hx rfl (hb hby d14_32) k) ?_
    exact Fin.leaveN X0 e0 hlk (v := some (.int (nar .boolean (1 : Int32)))) (fun h => by rw [hret] at h; cases h) (by decide) (by decide) ⟨by simp [nar, c21], rfl, rfl⟩ (fun fs hr => retN X0 hx (t := .boolean) hret (by simp) (hb hby d14_33) hr)
  · refine Fin.go (fun _ k => XS.icmpNo X0.here hx rfl (hb hby d14_21) rfl (XT.ii_eq_f c21) k) ?_
    show Fin _ p e below s _ _ _ s₁ (mkF m 24 #[.val (.ref d1), .val (.ref d2), .val (.int (0 : Int32))] [])
    refine Fin.go (fun _ k => XS.iconst X0.here hx rfl (hb hby d14_24) k) ?_
    exact Fin.leaveN X0 e0 hlk (v := some (.int (nar .boolean (0 : Int32)))) (fun h => by rw [hret] at h; cases h) (by decide) (by decide) ⟨by simp [nar, c21], rfl, rfl⟩ (fun fs hr => retN X0 hx (t := .boolean) hret (by simp) (hb hby d14_25) hr)
set_option maxRecDepth 65536 in
set_option maxHeartbeats 40000000 in
theorem rmEq11 (l : Launch) (Z : State) (a0 : Array Value) (hw : ∀ d ∈ tables_1, d.before a0 Z = true) (n0 : Nat) (h0 : Heap) (O : Old Z n0 h0) (a b d1 d2 : Addr) (k1 k2 : ClassId) (x1 y1 : Int32) (cs : Int32) (S_cs : Sta Z Z.heap "java/lang/String" "COMPACT_STRINGS" "Z" (.int cs)) (hcs : ¬ cs = 0) (nab : a ≠ b) (A : Exa Z h0 a "java/lang/String") (B : Exa Z h0 b "java/lang/String") (C1 : Fld Z h0 a "java/lang/String" "coder" "B" (.int (0 : Int32))) (C2 : Fld Z h0 b "java/lang/String" "coder" "B" (.int (0 : Int32))) (F1 : Fld Z h0 a "java/lang/String" "value" "[B" (.ref d1)) (F2 : Fld Z h0 b "java/lang/String" "value" "[B" (.ref d2)) (V1 : Arv Z h0 d1 k1 .byte (1 : Int32) [(.int ((Int32.toInt8 x1).toInt32))] (.int (0 : Int32))) (V2 : Arv Z h0 d2 k2 .byte (1 : Int32) [(.int ((Int32.toInt8 y1).toInt32))] (.int (0 : Int32))) :
    ConW FrameEnd l Z [] (⟨"java/lang/String", "equals", "(Ljava/lang/Object;)Z"⟩ : MethodName) jdk_42_method_66_code 3 (some .boolean) ({ frames := 1, cells := 0, slots := 0, locals := 14 } : Room) #[(.ref a), (.ref b)] h0 (Pure h0 (some (.int (if ([((Int32.toInt8 x1).toInt32)] : List Int32) = [((Int32.toInt8 y1).toInt32)] then (1 : Int32) else 0)))) := by
  refine conOf (plainFor_of_name pn_java_lang_String) ?_
  intro p e s m below mth cc s₁ X0 hx hby hml hown hnm hret hlk hZ e0
  have N0 := Fr.nil n0
  refine Fin.came (castTop (t := _) (by first | (simp [entryFrame, mkF, argsToLocals, Value.category]; done) | rfl) (Steps.refl _) : Steps p.tables e below (s₁.setTop (entryFrame m #[(.ref a), (.ref b)] 3)) (s₁.setTop (mkF m 0 #[.val (.ref a), .val (.ref b), .unset] []))) ?_
  show Fin _ p e below s _ _ _ s₁ (mkF m 0 #[.val (.ref a), .val (.ref b), .unset] [])
  refine Fin.go (fun _ k => XS.aloadN X0.here hx rfl (hb hby d13_0) rfl rfl k) ?_
  refine Fin.go (fun _ k => XS.aloadN X0.here hx rfl (hb hby d13_1) rfl rfl k) ?_
  refine Fin.go (fun _ k => XT.acmpYes X0.here hx rfl (pc0 := 2) (pc' := 7) rfl (hb hby d13_2) rfl rfl rfl (XT.aa_ne_t (fun q => nab (Value.ref.inj q))) (by decide) (by decide) k) ?_
  show Fin _ p e below s _ _ _ s₁ (mkF m 7 #[.val (.ref a), .val (.ref b), .unset] [])
  refine Fin.go (fun _ k => XS.aloadN X0.here hx rfl (hb hby d13_7) rfl rfl k) ?_
  obtain ⟨T11, X11, e11, st11⟩ := instY X0 hx hZ hown (hw _ w_102) e0 (Ins.self B) (g := (mkF m 8 #[.val (.ref a), .val (.ref b), .unset] [(.ref b)])) rfl rfl (hb hby d13_8)
  refine Fin.go st11 ?_
  refine Fin.go (fun _ k => XS.ifNo X11.here hx rfl (hb hby d13_11) rfl (XT.i0_eq_f (by decide)) k) ?_
  show Fin _ p e below s _ _ _ T11 (mkF m 14 #[.val (.ref a), .val (.ref b), .unset] [])
  refine Fin.go (fun _ k => XS.aloadN X11.here hx rfl (hb hby d13_14) rfl rfl k) ?_
  obtain ⟨T12, X12, e12, st12⟩ := castY X11 hx hZ hown (hw _ w_102) e11 (Ins.self B) (g := (mkF m 15 #[.val (.ref a), .val (.ref b), .unset] [(.ref b)])) rfl rfl (hb hby d13_15)
  refine Fin.go st12 ?_
  refine Fin.go (fun _ k => XS.astoreN X12.here hx rfl (hb hby d13_18) rfl rfl (l' := #[.val (.ref a), .val (.ref b), .val (.ref b)]) rfl k) ?_
  obtain ⟨T13, X13, e13, st13⟩ := getS2 X12 hx hZ hown (host := "") (Or.inl (hw _ w_103)) Via.refl e12 (S_cs.ext O.2) (g := (mkF m 19 #[.val (.ref a), .val (.ref b), .val (.ref b)] [])) rfl (hb hby d13_19)
  refine Fin.go st13 ?_
  show Fin _ p e below s _ _ _ T13 (mkF m 22 #[.val (.ref a), .val (.ref b), .val (.ref b)] [(.int cs)])
  refine Fin.go (fun _ k => XS.ifNo X13.here hx rfl (hb hby d13_22) rfl (XT.i0_eq_f hcs) k) ?_
  show Fin _ p e below s _ _ _ T13 (mkF m 25 #[.val (.ref a), .val (.ref b), .val (.ref b)] [])
  refine Fin.go (fun _ k => XS.aloadN X13.here hx rfl (hb hby d13_25) rfl rfl k) ?_
  obtain ⟨T14, X14, e14, st14⟩ := getF X13 hx hZ hown (host := "") (Or.inl (hw _ w_27)) Via.refl e13 C1 (g := (mkF m 26 #[.val (.ref a), .val (.ref b), .val (.ref b)] [(.ref a)])) rfl rfl (hb hby d13_26)
  refine Fin.go st14 ?_
  show Fin _ p e below s _ _ _ T14 (mkF m 29 #[.val (.ref a), .val (.ref b), .val (.ref b)] [(.int (0 : Int32))])
  refine Fin.go (fun _ k => XS.aloadN X14.here hx rfl (hb hby d13_29) rfl rfl k) ?_
  obtain ⟨T15, X15, e15, st15⟩ := getF X14 hx hZ hown (host := "") (Or.inl (hw _ w_27)) Via.refl e14 C2 (g := (mkF m 30 #[.val (.ref a), .val (.ref b), .val (.ref b)] [(.ref b), (.int (0 : Int32))])) rfl rfl (hb hby d13_30)
  refine Fin.go st15 ?_
  show Fin _ p e below s _ _ _ T15 (mkF m 33 #[.val (.ref a), .val (.ref b), .val (.ref b)] [(.int (0 : Int32)), (.int (0 : Int32))])
  refine Fin.go (fun _ k => XS.icmpNo X15.here hx rfl (hb hby d13_33) rfl (XT.ii_ne_f (by decide)) k) ?_
  show Fin _ p e below s _ _ _ T15 (mkF m 36 #[.val (.ref a), .val (.ref b), .val (.ref b)] [])
  refine Fin.go (fun _ k => XS.aloadN X15.here hx rfl (hb hby d13_36) rfl rfl k) ?_
  obtain ⟨T16, X16, e16, st16⟩ := getF X15 hx hZ hown (host := "") (Or.inl (hw _ w_26)) Via.refl e15 F1 (g := (mkF m 37 #[.val (.ref a), .val (.ref b), .val (.ref b)] [(.ref a)])) rfl rfl (hb hby d13_37)
  refine Fin.go st16 ?_
  show Fin _ p e below s _ _ _ T16 (mkF m 40 #[.val (.ref a), .val (.ref b), .val (.ref b)] [(.ref d1)])
  refine Fin.go (fun _ k => XS.aloadN X16.here hx rfl (hb hby d13_40) rfl rfl k) ?_
  obtain ⟨T17, X17, e17, st17⟩ := getF X16 hx hZ hown (host := "") (Or.inl (hw _ w_26)) Via.refl e16 F2 (g := (mkF m 41 #[.val (.ref a), .val (.ref b), .val (.ref b)] [(.ref b), (.ref d1)])) rfl rfl (hb hby d13_41)
  refine Fin.go st17 ?_
  show Fin _ p e below s _ _ _ T17 (mkF m 44 #[.val (.ref a), .val (.ref b), .val (.ref b)] [(.ref d2), (.ref d1)])
  obtain ⟨v18, T18, L18, X18, q18, st18⟩ := callSt X17 hx hZ (y := (⟨"java/lang/StringLatin1", "equals", "([B[B)Z"⟩ : MethodName)) hown (hw _ w_104) (hw _ w_105) (hw _ w_106) (hw _ w_107) (by decide) (W := 0) (rmEqB11 l Z a0 hw n0 h0 O d1 d2 k1 k2 x1 y1 V1 V2) e17 (by decide) (by decide) (by decide) (by decide) (g := (mkF m 44 #[.val (.ref a), .val (.ref b), .val (.ref b)] [(.ref d2), (.ref d1)])) rfl (by rw [hml]; rfl) (argsL := [(.ref d1), (.ref d2)]) (rest := []) (lenOf pd_oABABcZ rfl) rfl (by show 2 * 0 + _ ≤ _; exact Nat.le_of_eq rfl) (hb hby d13_44)
  obtain ⟨rfl, e18, rfl⟩ := q18
  have N18 := Fr.app N0 (Fr.nil n0)
  refine Fin.go st18 ?_
  show Fin _ p e below s _ _ _ T18 (mkF m 47 #[.val (.ref a), .val (.ref b), .val (.ref b)] [(.int (if ([((Int32.toInt8 x1).toInt32)] : List Int32) = [((Int32.toInt8 y1).toInt32)] then (1 : Int32) else 0))])
  by_cases c47 : (if ([((Int32.toInt8 x1).toInt32)] : List Int32) = [((Int32.toInt8 y1).toInt32)] then (1 : Int32) else 0) = 0
  · refine Fin.go (fun _ k => XS.ifYes X18.here hx rfl (pc0 := 47) (pc' := 54) rfl (hb hby d13_47) rfl (XT.i0_eq_t c47) (by decide) (by decide) k) ?_
    show Fin _ p e below s _ _ _ T18 (mkF m 54 #[.val (.ref a), .val (.ref b), .val (.ref b)] [])
    refine Fin.go (fun _ k => XS.iconst X18.here hx rfl (hb hby d13_54) k) ?_
    exact Fin.leaveN X18 e18 hlk (v := some (.int (nar .boolean (0 : Int32)))) (fun h => by rw [hret] at h; cases h) (by decide) (by decide) ⟨by simp_all [nar], rfl, rfl⟩ (fun fs hr => retN X18 hx (t := .boolean) hret (by simp) (hb hby d13_55) hr)
  · refine Fin.go (fun _ k => XS.ifNo X18.here hx rfl (hb hby d13_47) rfl (XT.i0_eq_f c47) k) ?_
    show Fin _ p e below s _ _ _ T18 (mkF m 50 #[.val (.ref a), .val (.ref b), .val (.ref b)] [])
    refine Fin.go (fun _ k => XS.iconst X18.here hx rfl (hb hby d13_50) k) ?_
    refine Fin.go (fun _ k => XS.goto X18.here hx rfl (pc0 := 51) (pc' := 55) rfl (hb hby d13_51) (by decide) (by decide) k) ?_
    exact Fin.leaveN X18 e18 hlk (v := some (.int (nar .boolean (1 : Int32)))) (fun h => by rw [hret] at h; cases h) (by decide) (by decide) ⟨by simp_all [nar], rfl, rfl⟩ (fun fs hr => retN X18 hx (t := .boolean) hret (by simp) (hb hby d13_55) hr)
set_option maxRecDepth 65536 in
set_option maxHeartbeats 40000000 in
theorem rmEqB12 (l : Launch) (Z : State) (a0 : Array Value) (hw : ∀ d ∈ tables_1, d.before a0 Z = true) (n0 : Nat) (h0 : Heap) (O : Old Z n0 h0) (d1 d2 : Addr) (k1 k2 : ClassId) (x1 y1 y2 : Int32) (V1 : Arv Z h0 d1 k1 .byte (1 : Int32) [(.int ((Int32.toInt8 x1).toInt32))] (.int (0 : Int32))) (V2 : Arv Z h0 d2 k2 .byte (2 : Int32) [(.int ((Int32.toInt8 y1).toInt32)), (.int ((Int32.toInt8 y2).toInt32))] (.int (0 : Int32))) :
    ConW FrameEnd l Z [] (⟨"java/lang/StringLatin1", "equals", "([B[B)Z"⟩ : MethodName) jdk_43_method_13_code 3 (some .boolean) ({ frames := 0, cells := 0, slots := 0, locals := 0 } : Room) #[(.ref d1), (.ref d2)] h0 (Pure h0 (some (.int (if ([((Int32.toInt8 x1).toInt32)] : List Int32) = [((Int32.toInt8 y1).toInt32), ((Int32.toInt8 y2).toInt32)] then (1 : Int32) else 0)))) := by
  refine conOf (plainFor_of_name pn_java_lang_StringLatin1) ?_
  intro p e s m below mth cc s₁ X0 hx hby hml hown hnm hret hlk hZ e0
  have N0 := Fr.nil n0
  refine Fin.came (castTop (t := _) (by first | (simp [entryFrame, mkF, argsToLocals, Value.category]; done) | rfl) (Steps.refl _) : Steps p.tables e below (s₁.setTop (entryFrame m #[(.ref d1), (.ref d2)] 3)) (s₁.setTop (mkF m 0 #[.val (.ref d1), .val (.ref d2), .unset] []))) ?_
  show Fin _ p e below s _ _ _ s₁ (mkF m 0 #[.val (.ref d1), .val (.ref d2), .unset] [])
  refine Fin.go (fun _ k => XS.aloadN X0.here hx rfl (hb hby d14_0) rfl rfl k) ?_
  obtain ⟨c11, B11, q11, S11, M11, H11, G11⟩ := id V1
  refine Fin.go (fun _ k => X0.arraylength hx (by rw [e0]; exact B11.1) (State.isArrayOf_alike hZ.alike B11.2.1) (g := (mkF m 1 #[.val (.ref d1), .val (.ref d2), .unset] [(.ref d1)])) rfl rfl (hb hby d14_1) _ k) ?_
  rw [len_of S11 M11]
  show Fin _ p e below s _ _ _ s₁ (mkF m 2 #[.val (.ref d1), .val (.ref d2), .unset] [(.int (1 : Int32))])
  refine Fin.go (fun _ k => XS.aloadN X0.here hx rfl (hb hby d14_2) rfl rfl k) ?_
  obtain ⟨c12, B12, q12, S12, M12, H12, G12⟩ := id V2
  refine Fin.go (fun _ k => X0.arraylength hx (by rw [e0]; exact B12.1) (State.isArrayOf_alike hZ.alike B12.2.1) (g := (mkF m 3 #[.val (.ref d1), .val (.ref d2), .unset] [(.ref d2), (.int (1 : Int32))])) rfl rfl (hb hby d14_3) _ k) ?_
  rw [len_of S12 M12]
  show Fin _ p e below s _ _ _ s₁ (mkF m 4 #[.val (.ref d1), .val (.ref d2), .unset] [(.int (2 : Int32)), (.int (1 : Int32))])
  refine Fin.go (fun _ k => XS.icmpYes X0.here hx rfl (pc0 := 4) (pc' := 34) rfl (hb hby d14_4) rfl (XT.ii_ne_t (by decide)) (by decide) (by decide) k) ?_
  show Fin _ p e below s _ _ _ s₁ (mkF m 34 #[.val (.ref d1), .val (.ref d2), .unset] [])
  refine Fin.go (fun _ k => XS.iconst X0.here hx rfl (hb hby d14_34) k) ?_
  exact Fin.leaveN X0 e0 hlk (v := some (.int (nar .boolean (0 : Int32)))) (fun h => by rw [hret] at h; cases h) (by decide) (by decide) ⟨by simp [nar], rfl, rfl⟩ (fun fs hr => retN X0 hx (t := .boolean) hret (by simp) (hb hby d14_35) hr)
set_option maxRecDepth 65536 in
set_option maxHeartbeats 40000000 in
theorem rmEq12 (l : Launch) (Z : State) (a0 : Array Value) (hw : ∀ d ∈ tables_1, d.before a0 Z = true) (n0 : Nat) (h0 : Heap) (O : Old Z n0 h0) (a b d1 d2 : Addr) (k1 k2 : ClassId) (x1 y1 y2 : Int32) (cs : Int32) (S_cs : Sta Z Z.heap "java/lang/String" "COMPACT_STRINGS" "Z" (.int cs)) (hcs : ¬ cs = 0) (nab : a ≠ b) (A : Exa Z h0 a "java/lang/String") (B : Exa Z h0 b "java/lang/String") (C1 : Fld Z h0 a "java/lang/String" "coder" "B" (.int (0 : Int32))) (C2 : Fld Z h0 b "java/lang/String" "coder" "B" (.int (0 : Int32))) (F1 : Fld Z h0 a "java/lang/String" "value" "[B" (.ref d1)) (F2 : Fld Z h0 b "java/lang/String" "value" "[B" (.ref d2)) (V1 : Arv Z h0 d1 k1 .byte (1 : Int32) [(.int ((Int32.toInt8 x1).toInt32))] (.int (0 : Int32))) (V2 : Arv Z h0 d2 k2 .byte (2 : Int32) [(.int ((Int32.toInt8 y1).toInt32)), (.int ((Int32.toInt8 y2).toInt32))] (.int (0 : Int32))) :
    ConW FrameEnd l Z [] (⟨"java/lang/String", "equals", "(Ljava/lang/Object;)Z"⟩ : MethodName) jdk_42_method_66_code 3 (some .boolean) ({ frames := 1, cells := 0, slots := 0, locals := 14 } : Room) #[(.ref a), (.ref b)] h0 (Pure h0 (some (.int (if ([((Int32.toInt8 x1).toInt32)] : List Int32) = [((Int32.toInt8 y1).toInt32), ((Int32.toInt8 y2).toInt32)] then (1 : Int32) else 0)))) := by
  refine conOf (plainFor_of_name pn_java_lang_String) ?_
  intro p e s m below mth cc s₁ X0 hx hby hml hown hnm hret hlk hZ e0
  have N0 := Fr.nil n0
  refine Fin.came (castTop (t := _) (by first | (simp [entryFrame, mkF, argsToLocals, Value.category]; done) | rfl) (Steps.refl _) : Steps p.tables e below (s₁.setTop (entryFrame m #[(.ref a), (.ref b)] 3)) (s₁.setTop (mkF m 0 #[.val (.ref a), .val (.ref b), .unset] []))) ?_
  show Fin _ p e below s _ _ _ s₁ (mkF m 0 #[.val (.ref a), .val (.ref b), .unset] [])
  refine Fin.go (fun _ k => XS.aloadN X0.here hx rfl (hb hby d13_0) rfl rfl k) ?_
  refine Fin.go (fun _ k => XS.aloadN X0.here hx rfl (hb hby d13_1) rfl rfl k) ?_
  refine Fin.go (fun _ k => XT.acmpYes X0.here hx rfl (pc0 := 2) (pc' := 7) rfl (hb hby d13_2) rfl rfl rfl (XT.aa_ne_t (fun q => nab (Value.ref.inj q))) (by decide) (by decide) k) ?_
  show Fin _ p e below s _ _ _ s₁ (mkF m 7 #[.val (.ref a), .val (.ref b), .unset] [])
  refine Fin.go (fun _ k => XS.aloadN X0.here hx rfl (hb hby d13_7) rfl rfl k) ?_
  obtain ⟨T11, X11, e11, st11⟩ := instY X0 hx hZ hown (hw _ w_102) e0 (Ins.self B) (g := (mkF m 8 #[.val (.ref a), .val (.ref b), .unset] [(.ref b)])) rfl rfl (hb hby d13_8)
  refine Fin.go st11 ?_
  refine Fin.go (fun _ k => XS.ifNo X11.here hx rfl (hb hby d13_11) rfl (XT.i0_eq_f (by decide)) k) ?_
  show Fin _ p e below s _ _ _ T11 (mkF m 14 #[.val (.ref a), .val (.ref b), .unset] [])
  refine Fin.go (fun _ k => XS.aloadN X11.here hx rfl (hb hby d13_14) rfl rfl k) ?_
  obtain ⟨T12, X12, e12, st12⟩ := castY X11 hx hZ hown (hw _ w_102) e11 (Ins.self B) (g := (mkF m 15 #[.val (.ref a), .val (.ref b), .unset] [(.ref b)])) rfl rfl (hb hby d13_15)
  refine Fin.go st12 ?_
  refine Fin.go (fun _ k => XS.astoreN X12.here hx rfl (hb hby d13_18) rfl rfl (l' := #[.val (.ref a), .val (.ref b), .val (.ref b)]) rfl k) ?_
  obtain ⟨T13, X13, e13, st13⟩ := getS2 X12 hx hZ hown (host := "") (Or.inl (hw _ w_103)) Via.refl e12 (S_cs.ext O.2) (g := (mkF m 19 #[.val (.ref a), .val (.ref b), .val (.ref b)] [])) rfl (hb hby d13_19)
  refine Fin.go st13 ?_
  show Fin _ p e below s _ _ _ T13 (mkF m 22 #[.val (.ref a), .val (.ref b), .val (.ref b)] [(.int cs)])
  refine Fin.go (fun _ k => XS.ifNo X13.here hx rfl (hb hby d13_22) rfl (XT.i0_eq_f hcs) k) ?_
  show Fin _ p e below s _ _ _ T13 (mkF m 25 #[.val (.ref a), .val (.ref b), .val (.ref b)] [])
  refine Fin.go (fun _ k => XS.aloadN X13.here hx rfl (hb hby d13_25) rfl rfl k) ?_
  obtain ⟨T14, X14, e14, st14⟩ := getF X13 hx hZ hown (host := "") (Or.inl (hw _ w_27)) Via.refl e13 C1 (g := (mkF m 26 #[.val (.ref a), .val (.ref b), .val (.ref b)] [(.ref a)])) rfl rfl (hb hby d13_26)
  refine Fin.go st14 ?_
  show Fin _ p e below s _ _ _ T14 (mkF m 29 #[.val (.ref a), .val (.ref b), .val (.ref b)] [(.int (0 : Int32))])
  refine Fin.go (fun _ k => XS.aloadN X14.here hx rfl (hb hby d13_29) rfl rfl k) ?_
  obtain ⟨T15, X15, e15, st15⟩ := getF X14 hx hZ hown (host := "") (Or.inl (hw _ w_27)) Via.refl e14 C2 (g := (mkF m 30 #[.val (.ref a), .val (.ref b), .val (.ref b)] [(.ref b), (.int (0 : Int32))])) rfl rfl (hb hby d13_30)
  refine Fin.go st15 ?_
  show Fin _ p e below s _ _ _ T15 (mkF m 33 #[.val (.ref a), .val (.ref b), .val (.ref b)] [(.int (0 : Int32)), (.int (0 : Int32))])
  refine Fin.go (fun _ k => XS.icmpNo X15.here hx rfl (hb hby d13_33) rfl (XT.ii_ne_f (by decide)) k) ?_
  show Fin _ p e below s _ _ _ T15 (mkF m 36 #[.val (.ref a), .val (.ref b), .val (.ref b)] [])
  refine Fin.go (fun _ k => XS.aloadN X15.here hx rfl (hb hby d13_36) rfl rfl k) ?_
  obtain ⟨T16, X16, e16, st16⟩ := getF X15 hx hZ hown (host := "") (Or.inl (hw _ w_26)) Via.refl e15 F1 (g := (mkF m 37 #[.val (.ref a), .val (.ref b), .val (.ref b)] [(.ref a)])) rfl rfl (hb hby d13_37)
  refine Fin.go st16 ?_
  show Fin _ p e below s _ _ _ T16 (mkF m 40 #[.val (.ref a), .val (.ref b), .val (.ref b)] [(.ref d1)])
  refine Fin.go (fun _ k => XS.aloadN X16.here hx rfl (hb hby d13_40) rfl rfl k) ?_
  obtain ⟨T17, X17, e17, st17⟩ := getF X16 hx hZ hown (host := "") (Or.inl (hw _ w_26)) Via.refl e16 F2 (g := (mkF m 41 #[.val (.ref a), .val (.ref b), .val (.ref b)] [(.ref b), (.ref d1)])) rfl rfl (hb hby d13_41)
  refine Fin.go st17 ?_
  show Fin _ p e below s _ _ _ T17 (mkF m 44 #[.val (.ref a), .val (.ref b), .val (.ref b)] [(.ref d2), (.ref d1)])
  obtain ⟨v18, T18, L18, X18, q18, st18⟩ := callSt X17 hx hZ (y := (⟨"java/lang/StringLatin1", "equals", "([B[B)Z"⟩ : MethodName)) hown (hw _ w_104) (hw _ w_105) (hw _ w_106) (hw _ w_107) (by decide) (W := 0) (rmEqB12 l Z a0 hw n0 h0 O d1 d2 k1 k2 x1 y1 y2 V1 V2) e17 (by decide) (by decide) (by decide) (by decide) (g := (mkF m 44 #[.val (.ref a), .val (.ref b), .val (.ref b)] [(.ref d2), (.ref d1)])) rfl (by rw [hml]; rfl) (argsL := [(.ref d1), (.ref d2)]) (rest := []) (lenOf pd_oABABcZ rfl) rfl (by show 2 * 0 + _ ≤ _; exact Nat.le_of_eq rfl) (hb hby d13_44)
  obtain ⟨rfl, e18, rfl⟩ := q18
  have N18 := Fr.app N0 (Fr.nil n0)
  refine Fin.go st18 ?_
  show Fin _ p e below s _ _ _ T18 (mkF m 47 #[.val (.ref a), .val (.ref b), .val (.ref b)] [(.int (if ([((Int32.toInt8 x1).toInt32)] : List Int32) = [((Int32.toInt8 y1).toInt32), ((Int32.toInt8 y2).toInt32)] then (1 : Int32) else 0))])
  by_cases c47 : (if ([((Int32.toInt8 x1).toInt32)] : List Int32) = [((Int32.toInt8 y1).toInt32), ((Int32.toInt8 y2).toInt32)] then (1 : Int32) else 0) = 0
  · refine Fin.go (fun _ k => XS.ifYes X18.here hx rfl (pc0 := 47) (pc' := 54) rfl (hb hby d13_47) rfl (XT.i0_eq_t c47) (by decide) (by decide) k) ?_
    show Fin _ p e below s _ _ _ T18 (mkF m 54 #[.val (.ref a), .val (.ref b), .val (.ref b)] [])
    refine Fin.go (fun _ k => XS.iconst X18.here hx rfl (hb hby d13_54) k) ?_
    exact Fin.leaveN X18 e18 hlk (v := some (.int (nar .boolean (0 : Int32)))) (fun h => by rw [hret] at h; cases h) (by decide) (by decide) ⟨by simp_all [nar], rfl, rfl⟩ (fun fs hr => retN X18 hx (t := .boolean) hret (by simp) (hb hby d13_55) hr)
  · refine Fin.go (fun _ k => XS.ifNo X18.here hx rfl (hb hby d13_47) rfl (XT.i0_eq_f c47) k) ?_
    show Fin _ p e below s _ _ _ T18 (mkF m 50 #[.val (.ref a), .val (.ref b), .val (.ref b)] [])
    refine Fin.go (fun _ k => XS.iconst X18.here hx rfl (hb hby d13_50) k) ?_
    refine Fin.go (fun _ k => XS.goto X18.here hx rfl (pc0 := 51) (pc' := 55) rfl (hb hby d13_51) (by decide) (by decide) k) ?_
    exact Fin.leaveN X18 e18 hlk (v := some (.int (nar .boolean (1 : Int32)))) (fun h => by rw [hret] at h; cases h) (by decide) (by decide) ⟨by simp_all [nar], rfl, rfl⟩ (fun fs hr => retN X18 hx (t := .boolean) hret (by simp) (hb hby d13_55) hr)
set_option maxRecDepth 65536 in
set_option maxHeartbeats 40000000 in
theorem rmEqB20 (l : Launch) (Z : State) (a0 : Array Value) (hw : ∀ d ∈ tables_1, d.before a0 Z = true) (n0 : Nat) (h0 : Heap) (O : Old Z n0 h0) (d1 d2 : Addr) (k1 k2 : ClassId) (x1 x2 : Int32) (V1 : Arv Z h0 d1 k1 .byte (2 : Int32) [(.int ((Int32.toInt8 x1).toInt32)), (.int ((Int32.toInt8 x2).toInt32))] (.int (0 : Int32))) (V2 : Arv Z h0 d2 k2 .byte (0 : Int32) [] (.int (0 : Int32))) :
    ConW FrameEnd l Z [] (⟨"java/lang/StringLatin1", "equals", "([B[B)Z"⟩ : MethodName) jdk_43_method_13_code 3 (some .boolean) ({ frames := 0, cells := 0, slots := 0, locals := 0 } : Room) #[(.ref d1), (.ref d2)] h0 (Pure h0 (some (.int (if ([((Int32.toInt8 x1).toInt32), ((Int32.toInt8 x2).toInt32)] : List Int32) = [] then (1 : Int32) else 0)))) := by
  refine conOf (plainFor_of_name pn_java_lang_StringLatin1) ?_
  intro p e s m below mth cc s₁ X0 hx hby hml hown hnm hret hlk hZ e0
  have N0 := Fr.nil n0
  refine Fin.came (castTop (t := _) (by first | (simp [entryFrame, mkF, argsToLocals, Value.category]; done) | rfl) (Steps.refl _) : Steps p.tables e below (s₁.setTop (entryFrame m #[(.ref d1), (.ref d2)] 3)) (s₁.setTop (mkF m 0 #[.val (.ref d1), .val (.ref d2), .unset] []))) ?_
  show Fin _ p e below s _ _ _ s₁ (mkF m 0 #[.val (.ref d1), .val (.ref d2), .unset] [])
  refine Fin.go (fun _ k => XS.aloadN X0.here hx rfl (hb hby d14_0) rfl rfl k) ?_
  obtain ⟨c11, B11, q11, S11, M11, H11, G11⟩ := id V1
  refine Fin.go (fun _ k => X0.arraylength hx (by rw [e0]; exact B11.1) (State.isArrayOf_alike hZ.alike B11.2.1) (g := (mkF m 1 #[.val (.ref d1), .val (.ref d2), .unset] [(.ref d1)])) rfl rfl (hb hby d14_1) _ k) ?_
  rw [len_of S11 M11]
  show Fin _ p e below s _ _ _ s₁ (mkF m 2 #[.val (.ref d1), .val (.ref d2), .unset] [(.int (2 : Int32))])
  refine Fin.go (fun _ k => XS.aloadN X0.here hx rfl (hb hby d14_2) rfl rfl k) ?_
  obtain ⟨c12, B12, q12, S12, M12, H12, G12⟩ := id V2
  refine Fin.go (fun _ k => X0.arraylength hx (by rw [e0]; exact B12.1) (State.isArrayOf_alike hZ.alike B12.2.1) (g := (mkF m 3 #[.val (.ref d1), .val (.ref d2), .unset] [(.ref d2), (.int (2 : Int32))])) rfl rfl (hb hby d14_3) _ k) ?_
  rw [len_of S12 M12]
  show Fin _ p e below s _ _ _ s₁ (mkF m 4 #[.val (.ref d1), .val (.ref d2), .unset] [(.int (0 : Int32)), (.int (2 : Int32))])
  refine Fin.go (fun _ k => XS.icmpYes X0.here hx rfl (pc0 := 4) (pc' := 34) rfl (hb hby d14_4) rfl (XT.ii_ne_t (by decide)) (by decide) (by decide) k) ?_
  show Fin _ p e below s _ _ _ s₁ (mkF m 34 #[.val (.ref d1), .val (.ref d2), .unset] [])
  refine Fin.go (fun _ k => XS.iconst X0.here hx rfl (hb hby d14_34) k) ?_
  exact Fin.leaveN X0 e0 hlk (v := some (.int (nar .boolean (0 : Int32)))) (fun h => by rw [hret] at h; cases h) (by decide) (by decide) ⟨by simp [nar], rfl, rfl⟩ (fun fs hr => retN X0 hx (t := .boolean) hret (by simp) (hb hby d14_35) hr)
set_option maxRecDepth 65536 in
set_option maxHeartbeats 40000000 in
theorem rmEq20 (l : Launch) (Z : State) (a0 : Array Value) (hw : ∀ d ∈ tables_1, d.before a0 Z = true) (n0 : Nat) (h0 : Heap) (O : Old Z n0 h0) (a b d1 d2 : Addr) (k1 k2 : ClassId) (x1 x2 : Int32) (cs : Int32) (S_cs : Sta Z Z.heap "java/lang/String" "COMPACT_STRINGS" "Z" (.int cs)) (hcs : ¬ cs = 0) (nab : a ≠ b) (A : Exa Z h0 a "java/lang/String") (B : Exa Z h0 b "java/lang/String") (C1 : Fld Z h0 a "java/lang/String" "coder" "B" (.int (0 : Int32))) (C2 : Fld Z h0 b "java/lang/String" "coder" "B" (.int (0 : Int32))) (F1 : Fld Z h0 a "java/lang/String" "value" "[B" (.ref d1)) (F2 : Fld Z h0 b "java/lang/String" "value" "[B" (.ref d2)) (V1 : Arv Z h0 d1 k1 .byte (2 : Int32) [(.int ((Int32.toInt8 x1).toInt32)), (.int ((Int32.toInt8 x2).toInt32))] (.int (0 : Int32))) (V2 : Arv Z h0 d2 k2 .byte (0 : Int32) [] (.int (0 : Int32))) :
    ConW FrameEnd l Z [] (⟨"java/lang/String", "equals", "(Ljava/lang/Object;)Z"⟩ : MethodName) jdk_42_method_66_code 3 (some .boolean) ({ frames := 1, cells := 0, slots := 0, locals := 14 } : Room) #[(.ref a), (.ref b)] h0 (Pure h0 (some (.int (if ([((Int32.toInt8 x1).toInt32), ((Int32.toInt8 x2).toInt32)] : List Int32) = [] then (1 : Int32) else 0)))) := by
  refine conOf (plainFor_of_name pn_java_lang_String) ?_
  intro p e s m below mth cc s₁ X0 hx hby hml hown hnm hret hlk hZ e0
  have N0 := Fr.nil n0
  refine Fin.came (castTop (t := _) (by first | (simp [entryFrame, mkF, argsToLocals, Value.category]; done) | rfl) (Steps.refl _) : Steps p.tables e below (s₁.setTop (entryFrame m #[(.ref a), (.ref b)] 3)) (s₁.setTop (mkF m 0 #[.val (.ref a), .val (.ref b), .unset] []))) ?_
  show Fin _ p e below s _ _ _ s₁ (mkF m 0 #[.val (.ref a), .val (.ref b), .unset] [])
  refine Fin.go (fun _ k => XS.aloadN X0.here hx rfl (hb hby d13_0) rfl rfl k) ?_
  refine Fin.go (fun _ k => XS.aloadN X0.here hx rfl (hb hby d13_1) rfl rfl k) ?_
  refine Fin.go (fun _ k => XT.acmpYes X0.here hx rfl (pc0 := 2) (pc' := 7) rfl (hb hby d13_2) rfl rfl rfl (XT.aa_ne_t (fun q => nab (Value.ref.inj q))) (by decide) (by decide) k) ?_
  show Fin _ p e below s _ _ _ s₁ (mkF m 7 #[.val (.ref a), .val (.ref b), .unset] [])
  refine Fin.go (fun _ k => XS.aloadN X0.here hx rfl (hb hby d13_7) rfl rfl k) ?_
  obtain ⟨T11, X11, e11, st11⟩ := instY X0 hx hZ hown (hw _ w_102) e0 (Ins.self B) (g := (mkF m 8 #[.val (.ref a), .val (.ref b), .unset] [(.ref b)])) rfl rfl (hb hby d13_8)
  refine Fin.go st11 ?_
  refine Fin.go (fun _ k => XS.ifNo X11.here hx rfl (hb hby d13_11) rfl (XT.i0_eq_f (by decide)) k) ?_
  show Fin _ p e below s _ _ _ T11 (mkF m 14 #[.val (.ref a), .val (.ref b), .unset] [])
  refine Fin.go (fun _ k => XS.aloadN X11.here hx rfl (hb hby d13_14) rfl rfl k) ?_
  obtain ⟨T12, X12, e12, st12⟩ := castY X11 hx hZ hown (hw _ w_102) e11 (Ins.self B) (g := (mkF m 15 #[.val (.ref a), .val (.ref b), .unset] [(.ref b)])) rfl rfl (hb hby d13_15)
  refine Fin.go st12 ?_
  refine Fin.go (fun _ k => XS.astoreN X12.here hx rfl (hb hby d13_18) rfl rfl (l' := #[.val (.ref a), .val (.ref b), .val (.ref b)]) rfl k) ?_
  obtain ⟨T13, X13, e13, st13⟩ := getS2 X12 hx hZ hown (host := "") (Or.inl (hw _ w_103)) Via.refl e12 (S_cs.ext O.2) (g := (mkF m 19 #[.val (.ref a), .val (.ref b), .val (.ref b)] [])) rfl (hb hby d13_19)
  refine Fin.go st13 ?_
  show Fin _ p e below s _ _ _ T13 (mkF m 22 #[.val (.ref a), .val (.ref b), .val (.ref b)] [(.int cs)])
  refine Fin.go (fun _ k => XS.ifNo X13.here hx rfl (hb hby d13_22) rfl (XT.i0_eq_f hcs) k) ?_
  show Fin _ p e below s _ _ _ T13 (mkF m 25 #[.val (.ref a), .val (.ref b), .val (.ref b)] [])
  refine Fin.go (fun _ k => XS.aloadN X13.here hx rfl (hb hby d13_25) rfl rfl k) ?_
  obtain ⟨T14, X14, e14, st14⟩ := getF X13 hx hZ hown (host := "") (Or.inl (hw _ w_27)) Via.refl e13 C1 (g := (mkF m 26 #[.val (.ref a), .val (.ref b), .val (.ref b)] [(.ref a)])) rfl rfl (hb hby d13_26)
  refine Fin.go st14 ?_
  show Fin _ p e below s _ _ _ T14 (mkF m 29 #[.val (.ref a), .val (.ref b), .val (.ref b)] [(.int (0 : Int32))])
  refine Fin.go (fun _ k => XS.aloadN X14.here hx rfl (hb hby d13_29) rfl rfl k) ?_
  obtain ⟨T15, X15, e15, st15⟩ := getF X14 hx hZ hown (host := "") (Or.inl (hw _ w_27)) Via.refl e14 C2 (g := (mkF m 30 #[.val (.ref a), .val (.ref b), .val (.ref b)] [(.ref b), (.int (0 : Int32))])) rfl rfl (hb hby d13_30)
  refine Fin.go st15 ?_
  show Fin _ p e below s _ _ _ T15 (mkF m 33 #[.val (.ref a), .val (.ref b), .val (.ref b)] [(.int (0 : Int32)), (.int (0 : Int32))])
  refine Fin.go (fun _ k => XS.icmpNo X15.here hx rfl (hb hby d13_33) rfl (XT.ii_ne_f (by decide)) k) ?_
  show Fin _ p e below s _ _ _ T15 (mkF m 36 #[.val (.ref a), .val (.ref b), .val (.ref b)] [])
  refine Fin.go (fun _ k => XS.aloadN X15.here hx rfl (hb hby d13_36) rfl rfl k) ?_
  obtain ⟨T16, X16, e16, st16⟩ := getF X15 hx hZ hown (host := "") (Or.inl (hw _ w_26)) Via.refl e15 F1 (g := (mkF m 37 #[.val (.ref a), .val (.ref b), .val (.ref b)] [(.ref a)])) rfl rfl (hb hby d13_37)
  refine Fin.go st16 ?_
  show Fin _ p e below s _ _ _ T16 (mkF m 40 #[.val (.ref a), .val (.ref b), .val (.ref b)] [(.ref d1)])
  refine Fin.go (fun _ k => XS.aloadN X16.here hx rfl (hb hby d13_40) rfl rfl k) ?_
  obtain ⟨T17, X17, e17, st17⟩ := getF X16 hx hZ hown (host := "") (Or.inl (hw _ w_26)) Via.refl e16 F2 (g := (mkF m 41 #[.val (.ref a), .val (.ref b), .val (.ref b)] [(.ref b), (.ref d1)])) rfl rfl (hb hby d13_41)
  refine Fin.go st17 ?_
  show Fin _ p e below s _ _ _ T17 (mkF m 44 #[.val (.ref a), .val (.ref b), .val (.ref b)] [(.ref d2), (.ref d1)])
  obtain ⟨v18, T18, L18, X18, q18, st18⟩ := callSt X17 hx hZ (y := (⟨"java/lang/StringLatin1", "equals", "([B[B)Z"⟩ : MethodName)) hown (hw _ w_104) (hw _ w_105) (hw _ w_106) (hw _ w_107) (by decide) (W := 0) (rmEqB20 l Z a0 hw n0 h0 O d1 d2 k1 k2 x1 x2 V1 V2) e17 (by decide) (by decide) (by decide) (by decide) (g := (mkF m 44 #[.val (.ref a), .val (.ref b), .val (.ref b)] [(.ref d2), (.ref d1)])) rfl (by rw [hml]; rfl) (argsL := [(.ref d1), (.ref d2)]) (rest := []) (lenOf pd_oABABcZ rfl) rfl (by show 2 * 0 + _ ≤ _; exact Nat.le_of_eq rfl) (hb hby d13_44)
  obtain ⟨rfl, e18, rfl⟩ := q18
  have N18 := Fr.app N0 (Fr.nil n0)
  refine Fin.go st18 ?_
  show Fin _ p e below s _ _ _ T18 (mkF m 47 #[.val (.ref a), .val (.ref b), .val (.ref b)] [(.int (if ([((Int32.toInt8 x1).toInt32), ((Int32.toInt8 x2).toInt32)] : List Int32) = [] then (1 : Int32) else 0))])
  by_cases c47 : (if ([((Int32.toInt8 x1).toInt32), ((Int32.toInt8 x2).toInt32)] : List Int32) = [] then (1 : Int32) else 0) = 0
  · refine Fin.go (fun _ k => XS.ifYes X18.here hx rfl (pc0 := 47) (pc' := 54) rfl (hb hby d13_47) rfl (XT.i0_eq_t c47) (by decide) (by decide) k) ?_
    show Fin _ p e below s _ _ _ T18 (mkF m 54 #[.val (.ref a), .val (.ref b), .val (.ref b)] [])
    refine Fin.go (fun _ k => XS.iconst X18.here hx rfl (hb hby d13_54) k) ?_
    exact Fin.leaveN X18 e18 hlk (v := some (.int (nar .boolean (0 : Int32)))) (fun h => by rw [hret] at h; cases h) (by decide) (by decide) ⟨by simp_all [nar], rfl, rfl⟩ (fun fs hr => retN X18 hx (t := .boolean) hret (by simp) (hb hby d13_55) hr)
  · refine Fin.go (fun _ k => XS.ifNo X18.here hx rfl (hb hby d13_47) rfl (XT.i0_eq_f c47) k) ?_
    show Fin _ p e below s _ _ _ T18 (mkF m 50 #[.val (.ref a), .val (.ref b), .val (.ref b)] [])
    refine Fin.go (fun _ k => XS.iconst X18.here hx rfl (hb hby d13_50) k) ?_
    refine Fin.go (fun _ k => XS.goto X18.here hx rfl (pc0 := 51) (pc' := 55) rfl (hb hby d13_51) (by decide) (by decide) k) ?_
    exact Fin.leaveN X18 e18 hlk (v := some (.int (nar .boolean (1 : Int32)))) (fun h => by rw [hret] at h; cases h) (by decide) (by decide) ⟨by simp_all [nar], rfl, rfl⟩ (fun fs hr => retN X18 hx (t := .boolean) hret (by simp) (hb hby d13_55) hr)
set_option maxRecDepth 65536 in
set_option maxHeartbeats 40000000 in
theorem rmEqB21 (l : Launch) (Z : State) (a0 : Array Value) (hw : ∀ d ∈ tables_1, d.before a0 Z = true) (n0 : Nat) (h0 : Heap) (O : Old Z n0 h0) (d1 d2 : Addr) (k1 k2 : ClassId) (x1 x2 y1 : Int32) (V1 : Arv Z h0 d1 k1 .byte (2 : Int32) [(.int ((Int32.toInt8 x1).toInt32)), (.int ((Int32.toInt8 x2).toInt32))] (.int (0 : Int32))) (V2 : Arv Z h0 d2 k2 .byte (1 : Int32) [(.int ((Int32.toInt8 y1).toInt32))] (.int (0 : Int32))) :
    ConW FrameEnd l Z [] (⟨"java/lang/StringLatin1", "equals", "([B[B)Z"⟩ : MethodName) jdk_43_method_13_code 3 (some .boolean) ({ frames := 0, cells := 0, slots := 0, locals := 0 } : Room) #[(.ref d1), (.ref d2)] h0 (Pure h0 (some (.int (if ([((Int32.toInt8 x1).toInt32), ((Int32.toInt8 x2).toInt32)] : List Int32) = [((Int32.toInt8 y1).toInt32)] then (1 : Int32) else 0)))) := by
  refine conOf (plainFor_of_name pn_java_lang_StringLatin1) ?_
  intro p e s m below mth cc s₁ X0 hx hby hml hown hnm hret hlk hZ e0
  have N0 := Fr.nil n0
  refine Fin.came (castTop (t := _) (by first | (simp [entryFrame, mkF, argsToLocals, Value.category]; done) | rfl) (Steps.refl _) : Steps p.tables e below (s₁.setTop (entryFrame m #[(.ref d1), (.ref d2)] 3)) (s₁.setTop (mkF m 0 #[.val (.ref d1), .val (.ref d2), .unset] []))) ?_
  show Fin _ p e below s _ _ _ s₁ (mkF m 0 #[.val (.ref d1), .val (.ref d2), .unset] [])
  refine Fin.go (fun _ k => XS.aloadN X0.here hx rfl (hb hby d14_0) rfl rfl k) ?_
  obtain ⟨c11, B11, q11, S11, M11, H11, G11⟩ := id V1
  refine Fin.go (fun _ k => X0.arraylength hx (by rw [e0]; exact B11.1) (State.isArrayOf_alike hZ.alike B11.2.1) (g := (mkF m 1 #[.val (.ref d1), .val (.ref d2), .unset] [(.ref d1)])) rfl rfl (hb hby d14_1) _ k) ?_
  rw [len_of S11 M11]
  show Fin _ p e below s _ _ _ s₁ (mkF m 2 #[.val (.ref d1), .val (.ref d2), .unset] [(.int (2 : Int32))])
  refine Fin.go (fun _ k => XS.aloadN X0.here hx rfl (hb hby d14_2) rfl rfl k) ?_
  obtain ⟨c12, B12, q12, S12, M12, H12, G12⟩ := id V2
  refine Fin.go (fun _ k => X0.arraylength hx (by rw [e0]; exact B12.1) (State.isArrayOf_alike hZ.alike B12.2.1) (g := (mkF m 3 #[.val (.ref d1), .val (.ref d2), .unset] [(.ref d2), (.int (2 : Int32))])) rfl rfl (hb hby d14_3) _ k) ?_
  rw [len_of S12 M12]
  show Fin _ p e below s _ _ _ s₁ (mkF m 4 #[.val (.ref d1), .val (.ref d2), .unset] [(.int (1 : Int32)), (.int (2 : Int32))])
  refine Fin.go (fun _ k => XS.icmpYes X0.here hx rfl (pc0 := 4) (pc' := 34) rfl (hb hby d14_4) rfl (XT.ii_ne_t (by decide)) (by decide) (by decide) k) ?_
  show Fin _ p e below s _ _ _ s₁ (mkF m 34 #[.val (.ref d1), .val (.ref d2), .unset] [])
  refine Fin.go (fun _ k => XS.iconst X0.here hx rfl (hb hby d14_34) k) ?_
  exact Fin.leaveN X0 e0 hlk (v := some (.int (nar .boolean (0 : Int32)))) (fun h => by rw [hret] at h; cases h) (by decide) (by decide) ⟨by simp [nar], rfl, rfl⟩ (fun fs hr => retN X0 hx (t := .boolean) hret (by simp) (hb hby d14_35) hr)
set_option maxRecDepth 65536 in
set_option maxHeartbeats 40000000 in
theorem rmEq21 (l : Launch) (Z : State) (a0 : Array Value) (hw : ∀ d ∈ tables_1, d.before a0 Z = true) (n0 : Nat) (h0 : Heap) (O : Old Z n0 h0) (a b d1 d2 : Addr) (k1 k2 : ClassId) (x1 x2 y1 : Int32) (cs : Int32) (S_cs : Sta Z Z.heap "java/lang/String" "COMPACT_STRINGS" "Z" (.int cs)) (hcs : ¬ cs = 0) (nab : a ≠ b) (A : Exa Z h0 a "java/lang/String") (B : Exa Z h0 b "java/lang/String") (C1 : Fld Z h0 a "java/lang/String" "coder" "B" (.int (0 : Int32))) (C2 : Fld Z h0 b "java/lang/String" "coder" "B" (.int (0 : Int32))) (F1 : Fld Z h0 a "java/lang/String" "value" "[B" (.ref d1)) (F2 : Fld Z h0 b "java/lang/String" "value" "[B" (.ref d2)) (V1 : Arv Z h0 d1 k1 .byte (2 : Int32) [(.int ((Int32.toInt8 x1).toInt32)), (.int ((Int32.toInt8 x2).toInt32))] (.int (0 : Int32))) (V2 : Arv Z h0 d2 k2 .byte (1 : Int32) [(.int ((Int32.toInt8 y1).toInt32))] (.int (0 : Int32))) :
    ConW FrameEnd l Z [] (⟨"java/lang/String", "equals", "(Ljava/lang/Object;)Z"⟩ : MethodName) jdk_42_method_66_code 3 (some .boolean) ({ frames := 1, cells := 0, slots := 0, locals := 14 } : Room) #[(.ref a), (.ref b)] h0 (Pure h0 (some (.int (if ([((Int32.toInt8 x1).toInt32), ((Int32.toInt8 x2).toInt32)] : List Int32) = [((Int32.toInt8 y1).toInt32)] then (1 : Int32) else 0)))) := by
  refine conOf (plainFor_of_name pn_java_lang_String) ?_
  intro p e s m below mth cc s₁ X0 hx hby hml hown hnm hret hlk hZ e0
  have N0 := Fr.nil n0
  refine Fin.came (castTop (t := _) (by first | (simp [entryFrame, mkF, argsToLocals, Value.category]; done) | rfl) (Steps.refl _) : Steps p.tables e below (s₁.setTop (entryFrame m #[(.ref a), (.ref b)] 3)) (s₁.setTop (mkF m 0 #[.val (.ref a), .val (.ref b), .unset] []))) ?_
  show Fin _ p e below s _ _ _ s₁ (mkF m 0 #[.val (.ref a), .val (.ref b), .unset] [])
  refine Fin.go (fun _ k => XS.aloadN X0.here hx rfl (hb hby d13_0) rfl rfl k) ?_
  refine Fin.go (fun _ k => XS.aloadN X0.here hx rfl (hb hby d13_1) rfl rfl k) ?_
  refine Fin.go (fun _ k => XT.acmpYes X0.here hx rfl (pc0 := 2) (pc' := 7) rfl (hb hby d13_2) rfl rfl rfl (XT.aa_ne_t (fun q => nab (Value.ref.inj q))) (by decide) (by decide) k) ?_
  show Fin _ p e below s _ _ _ s₁ (mkF m 7 #[.val (.ref a), .val (.ref b), .unset] [])
  refine Fin.go (fun _ k => XS.aloadN X0.here hx rfl (hb hby d13_7) rfl rfl k) ?_
  obtain ⟨T11, X11, e11, st11⟩ := instY X0 hx hZ hown (hw _ w_102) e0 (Ins.self B) (g := (mkF m 8 #[.val (.ref a), .val (.ref b), .unset] [(.ref b)])) rfl rfl (hb hby d13_8)
  refine Fin.go st11 ?_
  refine Fin.go (fun _ k => XS.ifNo X11.here hx rfl (hb hby d13_11) rfl (XT.i0_eq_f (by decide)) k) ?_
  show Fin _ p e below s _ _ _ T11 (mkF m 14 #[.val (.ref a), .val (.ref b), .unset] [])
  refine Fin.go (fun _ k => XS.aloadN X11.here hx rfl (hb hby d13_14) rfl rfl k) ?_
  obtain ⟨T12, X12, e12, st12⟩ := castY X11 hx hZ hown (hw _ w_102) e11 (Ins.self B) (g := (mkF m 15 #[.val (.ref a), .val (.ref b), .unset] [(.ref b)])) rfl rfl (hb hby d13_15)
  refine Fin.go st12 ?_
  refine Fin.go (fun _ k => XS.astoreN X12.here hx rfl (hb hby d13_18) rfl rfl (l' := #[.val (.ref a), .val (.ref b), .val (.ref b)]) rfl k) ?_
  obtain ⟨T13, X13, e13, st13⟩ := getS2 X12 hx hZ hown (host := "") (Or.inl (hw _ w_103)) Via.refl e12 (S_cs.ext O.2) (g := (mkF m 19 #[.val (.ref a), .val (.ref b), .val (.ref b)] [])) rfl (hb hby d13_19)
  refine Fin.go st13 ?_
  show Fin _ p e below s _ _ _ T13 (mkF m 22 #[.val (.ref a), .val (.ref b), .val (.ref b)] [(.int cs)])
  refine Fin.go (fun _ k => XS.ifNo X13.here hx rfl (hb hby d13_22) rfl (XT.i0_eq_f hcs) k) ?_
  show Fin _ p e below s _ _ _ T13 (mkF m 25 #[.val (.ref a), .val (.ref b), .val (.ref b)] [])
  refine Fin.go (fun _ k => XS.aloadN X13.here hx rfl (hb hby d13_25) rfl rfl k) ?_
  obtain ⟨T14, X14, e14, st14⟩ := getF X13 hx hZ hown (host := "") (Or.inl (hw _ w_27)) Via.refl e13 C1 (g := (mkF m 26 #[.val (.ref a), .val (.ref b), .val (.ref b)] [(.ref a)])) rfl rfl (hb hby d13_26)
  refine Fin.go st14 ?_
  show Fin _ p e below s _ _ _ T14 (mkF m 29 #[.val (.ref a), .val (.ref b), .val (.ref b)] [(.int (0 : Int32))])
  refine Fin.go (fun _ k => XS.aloadN X14.here hx rfl (hb hby d13_29) rfl rfl k) ?_
  obtain ⟨T15, X15, e15, st15⟩ := getF X14 hx hZ hown (host := "") (Or.inl (hw _ w_27)) Via.refl e14 C2 (g := (mkF m 30 #[.val (.ref a), .val (.ref b), .val (.ref b)] [(.ref b), (.int (0 : Int32))])) rfl rfl (hb hby d13_30)
  refine Fin.go st15 ?_
  show Fin _ p e below s _ _ _ T15 (mkF m 33 #[.val (.ref a), .val (.ref b), .val (.ref b)] [(.int (0 : Int32)), (.int (0 : Int32))])
  refine Fin.go (fun _ k => XS.icmpNo X15.here hx rfl (hb hby d13_33) rfl (XT.ii_ne_f (by decide)) k) ?_
  show Fin _ p e below s _ _ _ T15 (mkF m 36 #[.val (.ref a), .val (.ref b), .val (.ref b)] [])
  refine Fin.go (fun _ k => XS.aloadN X15.here hx rfl (hb hby d13_36) rfl rfl k) ?_
  obtain ⟨T16, X16, e16, st16⟩ := getF X15 hx hZ hown (host := "") (Or.inl (hw _ w_26)) Via.refl e15 F1 (g := (mkF m 37 #[.val (.ref a), .val (.ref b), .val (.ref b)] [(.ref a)])) rfl rfl (hb hby d13_37)
  refine Fin.go st16 ?_
  show Fin _ p e below s _ _ _ T16 (mkF m 40 #[.val (.ref a), .val (.ref b), .val (.ref b)] [(.ref d1)])
  refine Fin.go (fun _ k => XS.aloadN X16.here hx rfl (hb hby d13_40) rfl rfl k) ?_
  obtain ⟨T17, X17, e17, st17⟩ := getF X16 hx hZ hown (host := "") (Or.inl (hw _ w_26)) Via.refl e16 F2 (g := (mkF m 41 #[.val (.ref a), .val (.ref b), .val (.ref b)] [(.ref b), (.ref d1)])) rfl rfl (hb hby d13_41)
  refine Fin.go st17 ?_
  show Fin _ p e below s _ _ _ T17 (mkF m 44 #[.val (.ref a), .val (.ref b), .val (.ref b)] [(.ref d2), (.ref d1)])
  obtain ⟨v18, T18, L18, X18, q18, st18⟩ := callSt X17 hx hZ (y := (⟨"java/lang/StringLatin1", "equals", "([B[B)Z"⟩ : MethodName)) hown (hw _ w_104) (hw _ w_105) (hw _ w_106) (hw _ w_107) (by decide) (W := 0) (rmEqB21 l Z a0 hw n0 h0 O d1 d2 k1 k2 x1 x2 y1 V1 V2) e17 (by decide) (by decide) (by decide) (by decide) (g := (mkF m 44 #[.val (.ref a), .val (.ref b), .val (.ref b)] [(.ref d2), (.ref d1)])) rfl (by rw [hml]; rfl) (argsL := [(.ref d1), (.ref d2)]) (rest := []) (lenOf pd_oABABcZ rfl) rfl (by show 2 * 0 + _ ≤ _; exact Nat.le_of_eq rfl) (hb hby d13_44)
  obtain ⟨rfl, e18, rfl⟩ := q18
  have N18 := Fr.app N0 (Fr.nil n0)
  refine Fin.go st18 ?_
  show Fin _ p e below s _ _ _ T18 (mkF m 47 #[.val (.ref a), .val (.ref b), .val (.ref b)] [(.int (if ([((Int32.toInt8 x1).toInt32), ((Int32.toInt8 x2).toInt32)] : List Int32) = [((Int32.toInt8 y1).toInt32)] then (1 : Int32) else 0))])
  by_cases c47 : (if ([((Int32.toInt8 x1).toInt32), ((Int32.toInt8 x2).toInt32)] : List Int32) = [((Int32.toInt8 y1).toInt32)] then (1 : Int32) else 0) = 0
  · refine Fin.go (fun _ k => XS.ifYes X18.here hx rfl (pc0 := 47) (pc' := 54) rfl (hb hby d13_47) rfl (XT.i0_eq_t c47) (by decide) (by decide) k) ?_
    show Fin _ p e below s _ _ _ T18 (mkF m 54 #[.val (.ref a), .val (.ref b), .val (.ref b)] [])
    refine Fin.go (fun _ k => XS.iconst X18.here hx rfl (hb hby d13_54) k) ?_
    exact Fin.leaveN X18 e18 hlk (v := some (.int (nar .boolean (0 : Int32)))) (fun h => by rw [hret] at h; cases h) (by decide) (by decide) ⟨by simp_all [nar], rfl, rfl⟩ (fun fs hr => retN X18 hx (t := .boolean) hret (by simp) (hb hby d13_55) hr)
  · refine Fin.go (fun _ k => XS.ifNo X18.here hx rfl (hb hby d13_47) rfl (XT.i0_eq_f c47) k) ?_
    show Fin _ p e below s _ _ _ T18 (mkF m 50 #[.val (.ref a), .val (.ref b), .val (.ref b)] [])
    refine Fin.go (fun _ k => XS.iconst X18.here hx rfl (hb hby d13_50) k) ?_
    refine Fin.go (fun _ k => XS.goto X18.here hx rfl (pc0 := 51) (pc' := 55) rfl (hb hby d13_51) (by decide) (by decide) k) ?_
    exact Fin.leaveN X18 e18 hlk (v := some (.int (nar .boolean (1 : Int32)))) (fun h => by rw [hret] at h; cases h) (by decide) (by decide) ⟨by simp_all [nar], rfl, rfl⟩ (fun fs hr => retN X18 hx (t := .boolean) hret (by simp) (hb hby d13_55) hr)
set_option maxRecDepth 65536 in
set_option maxHeartbeats 40000000 in
theorem rmEqB22 (l : Launch) (Z : State) (a0 : Array Value) (hw : ∀ d ∈ tables_1, d.before a0 Z = true) (n0 : Nat) (h0 : Heap) (O : Old Z n0 h0) (d1 d2 : Addr) (k1 k2 : ClassId) (x1 x2 y1 y2 : Int32) (V1 : Arv Z h0 d1 k1 .byte (2 : Int32) [(.int ((Int32.toInt8 x1).toInt32)), (.int ((Int32.toInt8 x2).toInt32))] (.int (0 : Int32))) (V2 : Arv Z h0 d2 k2 .byte (2 : Int32) [(.int ((Int32.toInt8 y1).toInt32)), (.int ((Int32.toInt8 y2).toInt32))] (.int (0 : Int32))) :
    ConW FrameEnd l Z [] (⟨"java/lang/StringLatin1", "equals", "([B[B)Z"⟩ : MethodName) jdk_43_method_13_code 3 (some .boolean) ({ frames := 0, cells := 0, slots := 0, locals := 0 } : Room) #[(.ref d1), (.ref d2)] h0 (Pure h0 (some (.int (if ([((Int32.toInt8 x1).toInt32), ((Int32.toInt8 x2).toInt32)] : List Int32) = [((Int32.toInt8 y1).toInt32), ((Int32.toInt8 y2).toInt32)] then (1 : Int32) else 0)))) := by
  refine conOf (plainFor_of_name pn_java_lang_StringLatin1) ?_
  intro p e s m below mth cc s₁ X0 hx hby hml hown hnm hret hlk hZ e0
  have N0 := Fr.nil n0
  refine Fin.came (castTop (t := _) (by first | (simp [entryFrame, mkF, argsToLocals, Value.category]; done) | rfl) (Steps.refl _) : Steps p.tables e below (s₁.setTop (entryFrame m #[(.ref d1), (.ref d2)] 3)) (s₁.setTop (mkF m 0 #[.val (.ref d1), .val (.ref d2), .unset] []))) ?_
  show Fin _ p e below s _ _ _ s₁ (mkF m 0 #[.val (.ref d1), .val (.ref d2), .unset] [])
  refine Fin.go (fun _ k => XS.aloadN X0.here hx rfl (hb hby d14_0) rfl rfl k) ?_
  obtain ⟨c11, B11, q11, S11, M11, H11, G11⟩ := id V1
  refine Fin.go (fun _ k => X0.arraylength hx (by rw [e0]; exact B11.1) (State.isArrayOf_alike hZ.alike B11.2.1) (g := (mkF m 1 #[.val (.ref d1), .val (.ref d2), .unset] [(.ref d1)])) rfl rfl (hb hby d14_1) _ k) ?_
  rw [len_of S11 M11]
  show Fin _ p e below s _ _ _ s₁ (mkF m 2 #[.val (.ref d1), .val (.ref d2), .unset] [(.int (2 : Int32))])
  refine Fin.go (fun _ k => XS.aloadN X0.here hx rfl (hb hby d14_2) rfl rfl k) ?_
  obtain ⟨c12, B12, q12, S12, M12, H12, G12⟩ := id V2
  refine Fin.go (fun _ k => X0.arraylength hx (by rw [e0]; exact B12.1) (State.isArrayOf_alike hZ.alike B12.2.1) (g := (mkF m 3 #[.val (.ref d1), .val (.ref d2), .unset] [(.ref d2), (.int (2 : Int32))])) rfl rfl (hb hby d14_3) _ k) ?_
  rw [len_of S12 M12]
  show Fin _ p e below s _ _ _ s₁ (mkF m 4 #[.val (.ref d1), .val (.ref d2), .unset] [(.int (2 : Int32)), (.int (2 : Int32))])
  refine Fin.go (fun _ k => XS.icmpNo X0.here hx rfl (hb hby d14_4) rfl (XT.ii_ne_f (by decide)) k) ?_
  show Fin _ p e below s _ _ _ s₁ (mkF m 7 #[.val (.ref d1), .val (.ref d2), .unset] [])
  refine Fin.go (fun _ k => XS.iconst X0.here hx rfl (hb hby d14_7) k) ?_
  refine Fin.go (fun _ k => XS.istoreN X0.here hx rfl (hb hby d14_8) rfl (l' := #[.val (.ref d1), .val (.ref d2), .val (.int (0 : Int32))]) rfl k) ?_
  refine Fin.go (fun _ k => XS.iloadN X0.here hx rfl (hb hby d14_9) rfl k) ?_
  refine Fin.go (fun _ k => XS.aloadN X0.here hx rfl (hb hby d14_10) rfl rfl k) ?_
  show Fin _ p e below s _ _ _ s₁ (mkF m 11 #[.val (.ref d1), .val (.ref d2), .val (.int (0 : Int32))] [(.ref d1), (.int (0 : Int32))])
  obtain ⟨c13, B13, q13, S13, M13, H13, G13⟩ := id V1
  refine Fin.go (fun _ k => X0.arraylength hx (by rw [e0]; exact B13.1) (State.isArrayOf_alike hZ.alike B13.2.1) (g := (mkF m 11 #[.val (.ref d1), .val (.ref d2), .val (.int (0 : Int32))] [(.ref d1), (.int (0 : Int32))])) rfl rfl (hb hby d14_11) _ k) ?_
  rw [len_of S13 M13]
  show Fin _ p e below s _ _ _ s₁ (mkF m 12 #[.val (.ref d1), .val (.ref d2), .val (.int (0 : Int32))] [(.int (2 : Int32)), (.int (0 : Int32))])
  refine Fin.go (fun _ k => XS.icmpNo X0.here hx rfl (hb hby d14_12) rfl (XT.ii_ge_f (by decide)) k) ?_
  show Fin _ p e below s _ _ _ s₁ (mkF m 15 #[.val (.ref d1), .val (.ref d2), .val (.int (0 : Int32))] [])
  refine Fin.go (fun _ k => XS.aloadN X0.here hx rfl (hb hby d14_15) rfl rfl k) ?_
  refine Fin.go (fun _ k => XS.iloadN X0.here hx rfl (hb hby d14_16) rfl k) ?_
  obtain ⟨c14, B14, q14, S14, M14, H14, G14⟩ := id V1
  have i14 := inb_of S14 ⟨(by decide : ¬ ((0 : Int32) < (0 : Int32))), (by decide : (0 : Int32) < (2 : Int32))⟩
  refine Fin.go (fun _ k => X0.baloadBytes hx (j := (0 : Int32)) (v := (.int ((Int32.toInt8 x1).toInt32))) (by rw [e0]; exact B14.1) (State.isArrayOf_alike hZ.alike B14.2.1) B14.2.2 i14 (Has.at H14 i14 rfl) (g := (mkF m 17 #[.val (.ref d1), .val (.ref d2), .val (.int (0 : Int32))] [(.int (0 : Int32)), (.ref d1)])) rfl rfl (hb hby d14_17) _ k) ?_
  show Fin _ p e below s _ _ _ s₁ (mkF m 18 #[.val (.ref d1), .val (.ref d2), .val (.int (0 : Int32))] [(.int ((Int32.toInt8 x1).toInt32))])
  refine Fin.go (fun _ k => XS.aloadN X0.here hx rfl (hb hby d14_18) rfl rfl k) ?_
  refine Fin.go (fun _ k => XS.iloadN X0.here hx rfl (hb hby d14_19) rfl k) ?_
  obtain ⟨c15, B15, q15, S15, M15, H15, G15⟩ := id V2
  have i15 := inb_of S15 ⟨(by decide : ¬ ((0 : Int32) < (0 : Int32))), (by decide : (0 : Int32) < (2 : Int32))⟩
  refine Fin.go (fun _ k => X0.baloadBytes hx (j := (0 : Int32)) (v := (.int ((Int32.toInt8 y1).toInt32))) (by rw [e0]; exact B15.1) (State.isArrayOf_alike hZ.alike B15.2.1) B15.2.2 i15 (Has.at H15 i15 rfl) (g := (mkF m 20 #[.val (.ref d1), .val (.ref d2), .val (.int (0 : Int32))] [(.int (0 : Int32)), (.ref d2), (.int ((Int32.toInt8 x1).toInt32))])) rfl rfl (hb hby d14_20) _ k) ?_
  show Fin _ p e below s _ _ _ s₁ (mkF m 21 #[.val (.ref d1), .val (.ref d2), .val (.int (0 : Int32))] [(.int ((Int32.toInt8 y1).toInt32)), (.int ((Int32.toInt8 x1).toInt32))])
  by_cases c21 : ((Int32.toInt8 x1).toInt32) = ((Int32.toInt8 y1).toInt32)
  · refine Fin.go (fun _ k => XS.icmpYes X0.here hx rfl (pc0 := 21) (pc' := 26) rfl (hb hby d14_21) rfl (XT.ii_eq_t c21) (by decide) (by decide) k) ?_
    show Fin _ p e below s _ _ _ s₁ (mkF m 26 #[.val (.ref d1), .val (.ref d2), .val (.int (0 : Int32))] [])
    refine Fin.go (fun _ k => XS.iinc X0.here hx rfl (hb hby d14_26) rfl (l' := #[.val (.ref d1), .val (.ref d2), .val (.int ((0 : Int32) + (1 : Int32)))]) rfl k) ?_
    refine Fin.go (fun _ k => XS.goto X0.here hx rfl (pc0 := 29) (pc' := 9) rfl (hb hby d14_29) (by decide) (by decide) k) ?_
    refine Fin.go (fun _ k => XS.iloadN X0.here hx rfl (hb hby d14_9) rfl k) ?_
    refine Fin.go (fun _ k => XS.aloadN X0.here hx rfl (hb hby d14_10) rfl rfl k) ?_
    show Fin _ p e below s _ _ _ s₁ (mkF m 11 #[.val (.ref d1), .val (.ref d2), .val (.int ((0 : Int32) + (1 : Int32)))] [(.ref d1), (.int ((0 : Int32) + (1 : Int32)))])
    obtain ⟨c16, B16, q16, S16, M16, H16, G16⟩ := id V1
    refine Fin.go (fun _ k => X0.arraylength hx (by rw [e0]; exact B16.1) (State.isArrayOf_alike hZ.alike B16.2.1) (g := (mkF m 11 #[.val (.ref d1), .val (.ref d2), .val (.int ((0 : Int32) + (1 : Int32)))] [(.ref d1), (.int ((0 : Int32) + (1 : Int32)))])) rfl rfl (hb hby d14_11) _ k) ?_
    rw [len_of S16 M16]
    show Fin _ p e below s _ _ _ s₁ (mkF m 12 #[.val (.ref d1), .val (.ref d2), .val (.int ((0 : Int32) + (1 : Int32)))] [(.int (2 : Int32)), (.int ((0 : Int32) + (1 : Int32)))])
    refine Fin.go (fun _ k => XS.icmpNo X0.here hx rfl (hb hby d14_12) rfl (XT.ii_ge_f (by decide)) k) ?_
    show Fin _ p e below s _ _ _ s₁ (mkF m 15 #[.val (.ref d1), .val (.ref d2), .val (.int ((0 : Int32) + (1 : Int32)))] [])
    refine Fin.go (fun _ k => XS.aloadN X0.here hx rfl (hb hby d14_15) rfl rfl k) ?_
    refine Fin.go (fun _ k => XS.iloadN X0.here hx rfl (hb hby d14_16) rfl k) ?_
    obtain ⟨c17, B17, q17, S17, M17, H17, G17⟩ := id V1
    have i17 := inb_of S17 ⟨(by decide : ¬ (((0 : Int32) + (1 : Int32)) < (0 : Int32))), (by decide : ((0 : Int32) + (1 : Int32)) < (2 : Int32))⟩
    refine Fin.go (fun _ k => X0.baloadBytes hx (j := ((0 : Int32) + (1 : Int32))) (v := (.int ((Int32.toInt8 x2).toInt32))) (by rw [e0]; exact B17.1) (State.isArrayOf_alike hZ.alike B17.2.1) B17.2.2 i17 (Has.at H17 i17 rfl) (g := (mkF m 17 #[.val (.ref d1), .val (.ref d2), .val (.int ((0 : Int32) + (1 : Int32)))] [(.int ((0 : Int32) + (1 : Int32))), (.ref d1)])) rfl rfl (hb hby d14_17) _ k) ?_
    show Fin _ p e below s _ _ _ s₁ (mkF m 18 #[.val (.ref d1), .val (.ref d2), .val (.int ((0 : Int32) + (1 : Int32)))] [(.int ((Int32.toInt8 x2).toInt32))])
    refine Fin.go (fun _ k => XS.aloadN X0.here hx rfl (hb hby d14_18) rfl rfl k) ?_
    refine Fin.go (fun _ k => XS.iloadN X0.here hx rfl (hb hby d14_19) rfl k) ?_
    obtain ⟨c18, B18, q18, S18, M18, H18, G18⟩ := id V2
    have i18 := inb_of S18 ⟨(by decide : ¬ (((0 : Int32) + (1 : Int32)) < (0 : Int32))), (by decide : ((0 : Int32) + (1 : Int32)) < (2 : Int32))⟩
    refine Fin.go (fun _ k => X0.baloadBytes hx (j := ((0 : Int32) + (1 : Int32))) (v := (.int ((Int32.toInt8 y2).toInt32))) (by rw [e0]; exact B18.1) (State.isArrayOf_alike hZ.alike B18.2.1) B18.2.2 i18 (Has.at H18 i18 rfl) (g := (mkF m 20 #[.val (.ref d1), .val (.ref d2), .val (.int ((0 : Int32) + (1 : Int32)))] [(.int ((0 : Int32) + (1 : Int32))), (.ref d2), (.int ((Int32.toInt8 x2).toInt32))])) rfl rfl (hb hby d14_20) _ k) ?_
    show Fin _ p e below s _ _ _ s₁ (mkF m 21 #[.val (.ref d1), .val (.ref d2), .val (.int ((0 : Int32) + (1 : Int32)))] [(.int ((Int32.toInt8 y2).toInt32)), (.int ((Int32.toInt8 x2).toInt32))])
    by_cases c21_1 : ((Int32.toInt8 x2).toInt32) = ((Int32.toInt8 y2).toInt32)
    · refine Fin.go (fun _ k => XS.icmpYes X0.here hx rfl (pc0 := 21) (pc' := 26) rfl (hb hby d14_21) rfl (XT.ii_eq_t c21_1) (by decide) (by decide) k) ?_
      show Fin _ p e below s _ _ _ s₁ (mkF m 26 #[.val (.ref d1), .val (.ref d2), .val (.int ((0 : Int32) + (1 : Int32)))] [])
      refine Fin.go (fun _ k => XS.iinc X0.here hx rfl (hb hby d14_26) rfl (l' := #[.val (.ref d1), .val (.ref d2), .val (.int (((0 : Int32) + (1 : Int32)) + (1 : Int32)))]) rfl k) ?_
      refine Fin.go (fun _ k => XS.goto X0.here hx rfl (pc0 := 29) (pc' := 9) rfl (hb hby d14_29) (by decide) (by decide) k) ?_
      refine Fin.go (fun _ k => XS.iloadN X0.here hx rfl (hb hby d14_9) rfl k) ?_
      refine Fin.go (fun _ k => XS.aloadN X0.here hx rfl (hb hby d14_10) rfl rfl k) ?_
      show Fin _ p e below s _ _ _ s₁ (mkF m 11 #[.val (.ref d1), .val (.ref d2), .val (.int (((0 : Int32) + (1 : Int32)) + (1 : Int32)))] [(.ref d1), (.int (((0 : Int32) + (1 : Int32)) + (1 : Int32)))])
      obtain ⟨c19, B19, q19, S19, M19, H19, G19⟩ := id V1
      refine Fin.go (fun _ k => X0.arraylength hx (by rw [e0]; exact B19.1) (State.isArrayOf_alike hZ.alike B19.2.1) (g := (mkF m 11 #[.val (.ref d1), .val (.ref d2), .val (.int (((0 : Int32) + (1 : Int32)) + (1 : Int32)))] [(.ref d1), (.int (((0 : Int32) + (1 : Int32)) + (1 : Int32)))])) rfl rfl (hb hby d14_11) _ k) ?_
      rw [len_of S19 M19]
      show Fin _ p e below s _ _ _ s₁ (mkF m 12 #[.val (.ref d1), .val (.ref d2), .val (.int (((0 : Int32) + (1 : Int32)) + (1 : Int32)))] [(.int (2 : Int32)), (.int (((0 : Int32) + (1 : Int32)) + (1 : Int32)))])
      refine Fin.go (fun _ k => XS.icmpYes X0.here hx rfl (pc0 := 12) (pc' := 32) rfl (hb hby d14_12) rfl (XT.ii_ge_t (by decide)) (by decide) (by decide) k) ?_
      show Fin _ p e below s _ _ _ s₁ (mkF m 32 #[.val (.ref d1), .val (.ref d2), .val (.int (((0 : Int32) + (1 : Int32)) + (1 : Int32)))] [])
      refine Fin.go (fun _ k => XS.iconst X0.here hx rfl (hb hby d14_32) k) ?_
      exact Fin.leaveN X0 e0 hlk (v := some (.int (nar .boolean (1 : Int32)))) (fun h => by rw [hret] at h; cases h) (by decide) (by decide) ⟨by simp [nar, c21, c21_1], rfl, rfl⟩ (fun fs hr => retN X0 hx (t := .boolean) hret (by simp) (hb hby d14_33) hr)
    · refine Fin.go (fun _ k => XS.icmpNo X0.here hx rfl (hb hby d14_21) rfl (XT.ii_eq_f c21_1) k) ?_
      show Fin _ p e below s _ _ _ s₁ (mkF m 24 #[.val (.ref d1), .val (.ref d2), .val (.int ((0 : Int32) + (1 : Int32)))] [])
      refine Fin.go (fun _ k => XS.iconst X0.here hx rfl (hb hby d14_24) k) ?_
      exact Fin.leaveN X0 e0 hlk (v := some (.int (nar .boolean (0 : Int32)))) (fun h => by rw [hret] at h; cases h) (by decide) (by decide) ⟨by simp [nar, c21, c21_1], rfl, rfl⟩ (fun fs hr => retN X0 hx (t := .boolean) hret (by simp) (hb hby d14_25) hr)
  · refine Fin.go (fun _ k => XS.icmpNo X0.here hx rfl (hb hby d14_21) rfl (XT.ii_eq_f c21) k) ?_
    show Fin _ p e below s _ _ _ s₁ (mkF m 24 #[.val (.ref d1), .val (.ref d2), .val (.int (0 : Int32))] [])
    refine Fin.go (fun _ k => XS.iconst X0.here hx rfl (hb hby d14_24) k) ?_
    exact Fin.leaveN X0 e0 hlk (v := some (.int (nar .boolean (0 : Int32)))) (fun h => by rw [hret] at h; cases h) (by decide) (by decide) ⟨by simp [nar, c21], rfl, rfl⟩ (fun fs hr => retN X0 hx (t := .boolean) hret (by simp) (hb hby d14_25) hr)
set_option maxRecDepth 65536 in
set_option maxHeartbeats 40000000 in
theorem rmEq22 (l : Launch) (Z : State) (a0 : Array Value) (hw : ∀ d ∈ tables_1, d.before a0 Z = true) (n0 : Nat) (h0 : Heap) (O : Old Z n0 h0) (a b d1 d2 : Addr) (k1 k2 : ClassId) (x1 x2 y1 y2 : Int32) (cs : Int32) (S_cs : Sta Z Z.heap "java/lang/String" "COMPACT_STRINGS" "Z" (.int cs)) (hcs : ¬ cs = 0) (nab : a ≠ b) (A : Exa Z h0 a "java/lang/String") (B : Exa Z h0 b "java/lang/String") (C1 : Fld Z h0 a "java/lang/String" "coder" "B" (.int (0 : Int32))) (C2 : Fld Z h0 b "java/lang/String" "coder" "B" (.int (0 : Int32))) (F1 : Fld Z h0 a "java/lang/String" "value" "[B" (.ref d1)) (F2 : Fld Z h0 b "java/lang/String" "value" "[B" (.ref d2)) (V1 : Arv Z h0 d1 k1 .byte (2 : Int32) [(.int ((Int32.toInt8 x1).toInt32)), (.int ((Int32.toInt8 x2).toInt32))] (.int (0 : Int32))) (V2 : Arv Z h0 d2 k2 .byte (2 : Int32) [(.int ((Int32.toInt8 y1).toInt32)), (.int ((Int32.toInt8 y2).toInt32))] (.int (0 : Int32))) :
    ConW FrameEnd l Z [] (⟨"java/lang/String", "equals", "(Ljava/lang/Object;)Z"⟩ : MethodName) jdk_42_method_66_code 3 (some .boolean) ({ frames := 1, cells := 0, slots := 0, locals := 14 } : Room) #[(.ref a), (.ref b)] h0 (Pure h0 (some (.int (if ([((Int32.toInt8 x1).toInt32), ((Int32.toInt8 x2).toInt32)] : List Int32) = [((Int32.toInt8 y1).toInt32), ((Int32.toInt8 y2).toInt32)] then (1 : Int32) else 0)))) := by
  refine conOf (plainFor_of_name pn_java_lang_String) ?_
  intro p e s m below mth cc s₁ X0 hx hby hml hown hnm hret hlk hZ e0
  have N0 := Fr.nil n0
  refine Fin.came (castTop (t := _) (by first | (simp [entryFrame, mkF, argsToLocals, Value.category]; done) | rfl) (Steps.refl _) : Steps p.tables e below (s₁.setTop (entryFrame m #[(.ref a), (.ref b)] 3)) (s₁.setTop (mkF m 0 #[.val (.ref a), .val (.ref b), .unset] []))) ?_
  show Fin _ p e below s _ _ _ s₁ (mkF m 0 #[.val (.ref a), .val (.ref b), .unset] [])
  refine Fin.go (fun _ k => XS.aloadN X0.here hx rfl (hb hby d13_0) rfl rfl k) ?_
  refine Fin.go (fun _ k => XS.aloadN X0.here hx rfl (hb hby d13_1) rfl rfl k) ?_
  refine Fin.go (fun _ k => XT.acmpYes X0.here hx rfl (pc0 := 2) (pc' := 7) rfl (hb hby d13_2) rfl rfl rfl (XT.aa_ne_t (fun q => nab (Value.ref.inj q))) (by decide) (by decide) k) ?_
  show Fin _ p e below s _ _ _ s₁ (mkF m 7 #[.val (.ref a), .val (.ref b), .unset] [])
  refine Fin.go (fun _ k => XS.aloadN X0.here hx rfl (hb hby d13_7) rfl rfl k) ?_
  obtain ⟨T11, X11, e11, st11⟩ := instY X0 hx hZ hown (hw _ w_102) e0 (Ins.self B) (g := (mkF m 8 #[.val (.ref a), .val (.ref b), .unset] [(.ref b)])) rfl rfl (hb hby d13_8)
  refine Fin.go st11 ?_
  refine Fin.go (fun _ k => XS.ifNo X11.here hx rfl (hb hby d13_11) rfl (XT.i0_eq_f (by decide)) k) ?_
  show Fin _ p e below s _ _ _ T11 (mkF m 14 #[.val (.ref a), .val (.ref b), .unset] [])
  refine Fin.go (fun _ k => XS.aloadN X11.here hx rfl (hb hby d13_14) rfl rfl k) ?_
  obtain ⟨T12, X12, e12, st12⟩ := castY X11 hx hZ hown (hw _ w_102) e11 (Ins.self B) (g := (mkF m 15 #[.val (.ref a), .val (.ref b), .unset] [(.ref b)])) rfl rfl (hb hby d13_15)
  refine Fin.go st12 ?_
  refine Fin.go (fun _ k => XS.astoreN X12.here hx rfl (hb hby d13_18) rfl rfl (l' := #[.val (.ref a), .val (.ref b), .val (.ref b)]) rfl k) ?_
  obtain ⟨T13, X13, e13, st13⟩ := getS2 X12 hx hZ hown (host := "") (Or.inl (hw _ w_103)) Via.refl e12 (S_cs.ext O.2) (g := (mkF m 19 #[.val (.ref a), .val (.ref b), .val (.ref b)] [])) rfl (hb hby d13_19)
  refine Fin.go st13 ?_
  show Fin _ p e below s _ _ _ T13 (mkF m 22 #[.val (.ref a), .val (.ref b), .val (.ref b)] [(.int cs)])
  refine Fin.go (fun _ k => XS.ifNo X13.here hx rfl (hb hby d13_22) rfl (XT.i0_eq_f hcs) k) ?_
  show Fin _ p e below s _ _ _ T13 (mkF m 25 #[.val (.ref a), .val (.ref b), .val (.ref b)] [])
  refine Fin.go (fun _ k => XS.aloadN X13.here hx rfl (hb hby d13_25) rfl rfl k) ?_
  obtain ⟨T14, X14, e14, st14⟩ := getF X13 hx hZ hown (host := "") (Or.inl (hw _ w_27)) Via.refl e13 C1 (g := (mkF m 26 #[.val (.ref a), .val (.ref b), .val (.ref b)] [(.ref a)])) rfl rfl (hb hby d13_26)
  refine Fin.go st14 ?_
  show Fin _ p e below s _ _ _ T14 (mkF m 29 #[.val (.ref a), .val (.ref b), .val (.ref b)] [(.int (0 : Int32))])
  refine Fin.go (fun _ k => XS.aloadN X14.here hx rfl (hb hby d13_29) rfl rfl k) ?_
  obtain ⟨T15, X15, e15, st15⟩ := getF X14 hx hZ hown (host := "") (Or.inl (hw _ w_27)) Via.refl e14 C2 (g := (mkF m 30 #[.val (.ref a), .val (.ref b), .val (.ref b)] [(.ref b), (.int (0 : Int32))])) rfl rfl (hb hby d13_30)
  refine Fin.go st15 ?_
  show Fin _ p e below s _ _ _ T15 (mkF m 33 #[.val (.ref a), .val (.ref b), .val (.ref b)] [(.int (0 : Int32)), (.int (0 : Int32))])
  refine Fin.go (fun _ k => XS.icmpNo X15.here hx rfl (hb hby d13_33) rfl (XT.ii_ne_f (by decide)) k) ?_
  show Fin _ p e below s _ _ _ T15 (mkF m 36 #[.val (.ref a), .val (.ref b), .val (.ref b)] [])
  refine Fin.go (fun _ k => XS.aloadN X15.here hx rfl (hb hby d13_36) rfl rfl k) ?_
  obtain ⟨T16, X16, e16, st16⟩ := getF X15 hx hZ hown (host := "") (Or.inl (hw _ w_26)) Via.refl e15 F1 (g := (mkF m 37 #[.val (.ref a), .val (.ref b), .val (.ref b)] [(.ref a)])) rfl rfl (hb hby d13_37)
  refine Fin.go st16 ?_
  show Fin _ p e below s _ _ _ T16 (mkF m 40 #[.val (.ref a), .val (.ref b), .val (.ref b)] [(.ref d1)])
  refine Fin.go (fun _ k => XS.aloadN X16.here hx rfl (hb hby d13_40) rfl rfl k) ?_
  obtain ⟨T17, X17, e17, st17⟩ := getF X16 hx hZ hown (host := "") (Or.inl (hw _ w_26)) Via.refl e16 F2 (g := (mkF m 41 #[.val (.ref a), .val (.ref b), .val (.ref b)] [(.ref b), (.ref d1)])) rfl rfl (hb hby d13_41)
  refine Fin.go st17 ?_
  show Fin _ p e below s _ _ _ T17 (mkF m 44 #[.val (.ref a), .val (.ref b), .val (.ref b)] [(.ref d2), (.ref d1)])
  obtain ⟨v18, T18, L18, X18, q18, st18⟩ := callSt X17 hx hZ (y := (⟨"java/lang/StringLatin1", "equals", "([B[B)Z"⟩ : MethodName)) hown (hw _ w_104) (hw _ w_105) (hw _ w_106) (hw _ w_107) (by decide) (W := 0) (rmEqB22 l Z a0 hw n0 h0 O d1 d2 k1 k2 x1 x2 y1 y2 V1 V2) e17 (by decide) (by decide) (by decide) (by decide) (g := (mkF m 44 #[.val (.ref a), .val (.ref b), .val (.ref b)] [(.ref d2), (.ref d1)])) rfl (by rw [hml]; rfl) (argsL := [(.ref d1), (.ref d2)]) (rest := []) (lenOf pd_oABABcZ rfl) rfl (by show 2 * 0 + _ ≤ _; exact Nat.le_of_eq rfl) (hb hby d13_44)
  obtain ⟨rfl, e18, rfl⟩ := q18
  have N18 := Fr.app N0 (Fr.nil n0)
  refine Fin.go st18 ?_
  show Fin _ p e below s _ _ _ T18 (mkF m 47 #[.val (.ref a), .val (.ref b), .val (.ref b)] [(.int (if ([((Int32.toInt8 x1).toInt32), ((Int32.toInt8 x2).toInt32)] : List Int32) = [((Int32.toInt8 y1).toInt32), ((Int32.toInt8 y2).toInt32)] then (1 : Int32) else 0))])
  by_cases c47 : (if ([((Int32.toInt8 x1).toInt32), ((Int32.toInt8 x2).toInt32)] : List Int32) = [((Int32.toInt8 y1).toInt32), ((Int32.toInt8 y2).toInt32)] then (1 : Int32) else 0) = 0
  · refine Fin.go (fun _ k => XS.ifYes X18.here hx rfl (pc0 := 47) (pc' := 54) rfl (hb hby d13_47) rfl (XT.i0_eq_t c47) (by decide) (by decide) k) ?_
    show Fin _ p e below s _ _ _ T18 (mkF m 54 #[.val (.ref a), .val (.ref b), .val (.ref b)] [])
    refine Fin.go (fun _ k => XS.iconst X18.here hx rfl (hb hby d13_54) k) ?_
    exact Fin.leaveN X18 e18 hlk (v := some (.int (nar .boolean (0 : Int32)))) (fun h => by rw [hret] at h; cases h) (by decide) (by decide) ⟨by simp_all [nar], rfl, rfl⟩ (fun fs hr => retN X18 hx (t := .boolean) hret (by simp) (hb hby d13_55) hr)
  · refine Fin.go (fun _ k => XS.ifNo X18.here hx rfl (hb hby d13_47) rfl (XT.i0_eq_f c47) k) ?_
    show Fin _ p e below s _ _ _ T18 (mkF m 50 #[.val (.ref a), .val (.ref b), .val (.ref b)] [])
    refine Fin.go (fun _ k => XS.iconst X18.here hx rfl (hb hby d13_50) k) ?_
    refine Fin.go (fun _ k => XS.goto X18.here hx rfl (pc0 := 51) (pc' := 55) rfl (hb hby d13_51) (by decide) (by decide) k) ?_
    exact Fin.leaveN X18 e18 hlk (v := some (.int (nar .boolean (1 : Int32)))) (fun h => by rw [hret] at h; cases h) (by decide) (by decide) ⟨by simp_all [nar], rfl, rfl⟩ (fun fs hr => retN X18 hx (t := .boolean) hret (by simp) (hb hby d13_55) hr)
theorem rmEqS (l : Launch) (Z : State) (a0 : Array Value) (hw : ∀ d ∈ tables_1, d.before a0 Z = true) (n0 : Nat) (h0 : Heap) (O : Old Z n0 h0) (a b : Addr) (xs ys : List Int32) (B1 B2 : Nat) (cs : Int32) (S_cs : Sta Z Z.heap "java/lang/String" "COMPACT_STRINGS" "Z" (.int cs)) (hcs : ¬ cs = 0) (nab : a ≠ b) (hx : xs.length ≤ 2) (hy : ys.length ≤ 2) (Fa : StrIs Z h0 a xs B1) (Fb : StrIs Z h0 b ys B2) :
    Con FrameEnd l Z (⟨"java/lang/String", "equals", "(Ljava/lang/Object;)Z"⟩ : MethodName) jdk_42_method_66_code 3 (some .boolean) ({ frames := 1, cells := 0, slots := 0, locals := 14 } : Room) #[(.ref a), (.ref b)] h0 (Pure h0 (some (.int (eqI xs ys)))) := by
  obtain ⟨-, -, A, C1, d1, k1, -, F1, V1⟩ := Fa
  obtain ⟨-, -, B, C2, d2, k2, -, F2, V2⟩ := Fb
  match xs, ys, hx, hy with
  | [], [], _, _ => exact rmEq00 l Z a0 hw n0 h0 O a b d1 d2 k1 k2  cs S_cs hcs nab A B C1 C2 F1 F2 V1 V2
  | [], [y1], _, _ => exact rmEq01 l Z a0 hw n0 h0 O a b d1 d2 k1 k2 y1 cs S_cs hcs nab A B C1 C2 F1 F2 V1 V2
  | [], [y1, y2], _, _ => exact rmEq02 l Z a0 hw n0 h0 O a b d1 d2 k1 k2 y1 y2 cs S_cs hcs nab A B C1 C2 F1 F2 V1 V2
  | [x1], [], _, _ => exact rmEq10 l Z a0 hw n0 h0 O a b d1 d2 k1 k2 x1 cs S_cs hcs nab A B C1 C2 F1 F2 V1 V2
  | [x1], [y1], _, _ => exact rmEq11 l Z a0 hw n0 h0 O a b d1 d2 k1 k2 x1 y1 cs S_cs hcs nab A B C1 C2 F1 F2 V1 V2
  | [x1], [y1, y2], _, _ => exact rmEq12 l Z a0 hw n0 h0 O a b d1 d2 k1 k2 x1 y1 y2 cs S_cs hcs nab A B C1 C2 F1 F2 V1 V2
  | [x1, x2], [], _, _ => exact rmEq20 l Z a0 hw n0 h0 O a b d1 d2 k1 k2 x1 x2 cs S_cs hcs nab A B C1 C2 F1 F2 V1 V2
  | [x1, x2], [y1], _, _ => exact rmEq21 l Z a0 hw n0 h0 O a b d1 d2 k1 k2 x1 x2 y1 cs S_cs hcs nab A B C1 C2 F1 F2 V1 V2
  | [x1, x2], [y1, y2], _, _ => exact rmEq22 l Z a0 hw n0 h0 O a b d1 d2 k1 k2 x1 x2 y1 y2 cs S_cs hcs nab A B C1 C2 F1 F2 V1 V2
  | _ :: _ :: _ :: _, _, h, _ => exact absurd h (by simp)
  | _, _ :: _ :: _ :: _, _, h => exact absurd h (by simp)
set_option maxRecDepth 65536 in
set_option maxHeartbeats 40000000 in
theorem rmS (l : Launch) (Z : State) (a0 : Array Value) (hw : ∀ d ∈ tables_1, d.before a0 Z = true) (n0 : Nat) (h0 : Heap) (O : Old Z n0 h0) (n q0 q1 : Int32) (r0 : R255 q0) (r1 : R255 q1) (cs : Int32) (S_cs : Sta Z Z.heap "java/lang/String" "COMPACT_STRINGS" "Z" (.int cs)) (hcs : ¬ cs = 0) :
    ConHW l Z EL [] (⟨"com/example/grantwell/grantwell/engine/PrincipalCountsPinLaw", "str", "(ICC)Ljava/lang/String;"⟩ : MethodName) method_2_code 3 (some (.object "java/lang/String")) ({ frames := 4, cells := 6, slots := 12, locals := 66 } : Room) #[(.int n), (.int q0), (.int q1)] h0 (fun v h L => ∃ a, v = some (.ref a) ∧ Fr n0 L ∧ Keep h0 h [] ∧ StrIs Z h a (strL n q0 q1) h.size ∧ h0.size ≤ a) := by
  refine conOfH (plainFor_of_name pn_com_example_grantwell_grantwell_engine_PrincipalCountsPinLaw) ?_
  intro p e s m below mth cc s₁ X0 hx hby hml hown hnm hret hlk hZ e0 hS RR0
  have N0 := Fr.nil n0
  have hEL := elW hw
  have K0 := Keep.refl h0 ([] : List Addr)
  refine Fin.came (castTop (t := _) (by first | (simp [entryFrame, mkF, argsToLocals, Value.category]; done) | rfl) (Steps.refl _) : Steps p.tables e below (s₁.setTop (entryFrame m #[(.int n), (.int q0), (.int q1)] 3)) (s₁.setTop (mkF m 0 #[.val (.int n), .val (.int q0), .val (.int q1)] []))) ?_
  show Fin _ p e below s _ _ _ s₁ (mkF m 0 #[.val (.int n), .val (.int q0), .val (.int q1)] [])
  refine Fin.go (fun _ k => XS.iloadN X0.here hx rfl (hb hby d1_0) rfl k) ?_
  by_cases c1 : n = 0
  · refine Fin.go (fun _ k => XS.ifNo X0.here hx rfl (hb hby d1_1) rfl (XT.i0_ne_f c1) k) ?_
    show Fin _ p e below s _ _ _ s₁ (mkF m 4 #[.val (.int n), .val (.int q0), .val (.int q1)] [])
    obtain ⟨T11, h11, X11, e11, E11, A11, D11, U11, st11⟩ := newO X0 hx hZ hown (hw _ w_6) (hw _ w_7) (hw _ w_8) e0 (g := (mkF m 4 #[.val (.int n), .val (.int q0), .val (.int q1)] [])) rfl (hb hby d1_4) (by decide) (by decide)
    obtain ⟨a11, g11⟩ : ∃ z, z = h0.size := ⟨_, rfl⟩
    rw [← g11] at A11 D11 U11 st11
    refine Fin.go st11 ?_
    have O11 := O.ext E11
    have K11 := K0.ext E11
    have hk11 := Nat.le_trans (Nat.zero_le _) E11.1
    have RR11 := RR0.trans (CHr.ext E11 RR0.1)
    have n11 : n0 ≤ a11 := by have := O.2.1; have := O.1; omega
    have z11 : h0.size ≤ a11 := by have := K0.1; omega
    have sf11 := (Safe.new (Z := Z) (EL := EL) (vm := s.vm) (Nat.le_of_eq g11.symm)).ext E11 RR0.1
    have F11_value : Fld Z h11 a11 "java/lang/String" "value" "[B" .null := D11 (Or.inr (hw _ w_22)) (ty := (.array .byte)) (by decide)
    have F11_coder : Fld Z h11 a11 "java/lang/String" "coder" "B" (.int (0 : Int32)) := D11 (Or.inr (hw _ w_23)) (ty := .byte) (by decide)
    show Fin _ p e below s _ _ _ T11 (mkF m 7 #[.val (.int n), .val (.int q0), .val (.int q1)] [(.ref a11)])
    refine Fin.go (fun _ k => XS.dup X11.here hx rfl (hb hby d1_7) rfl rfl k) ?_
    refine Fin.go (fun _ k => XS.iconst X11.here hx rfl (hb hby d1_8) k) ?_
    obtain ⟨T12, h12, k12, X12, e12, E12, A12, st12⟩ := newP X11 hx hZ (aty := .char) (hw _ w_9) e11 (g := (mkF m 9 #[.val (.int n), .val (.int q0), .val (.int q1)] [(.int (0 : Int32)), (.ref a11), (.ref a11)])) rfl (hb hby d1_9) rfl (by decide : ¬ ((0 : Int32) < (0 : Int32))) (cap := 0) (by decide) (by decide) (by decide) (by decide)
    obtain ⟨a12, g12⟩ : ∃ z, z = h11.size := ⟨_, rfl⟩
    rw [← g12] at A12 st12
    refine Fin.go st12 ?_
    have O12 := O11.ext E12
    have K12 := K11.ext E12
    have hk12 := Nat.le_trans hk11 E12.1
    have RR12 := RR11.trans (CHr.ext E12 RR11.1)
    have n12 : n0 ≤ a12 := by have := O11.2.1; have := O11.1; omega
    have z12 : h0.size ≤ a12 := by have := K11.1; omega
    have V12 : Arv Z h12 a12 k12 .char (0 : Int32) [] (.int (0 : Int32)) := (Arv.new A12 (by decide))
    show Fin _ p e below s _ _ _ T12 (mkF m 11 #[.val (.int n), .val (.int q0), .val (.int q1)] [(.ref a12), (.ref a11), (.ref a11)])
    obtain ⟨v13, T13, L13, X13, hS13, hZ13, hown13, RC13, q13, st13⟩ := callCtH X12 hx hZ (y := (⟨"java/lang/String", "<init>", "([C)V"⟩ : MethodName)) rfl hown (hw _ w_10) (hw _ w_11) (hw _ w_8) (hw _ w_12) (by decide) (W := 1) (rmStr0 l Z a0 hw n0 h12 O12 a11 a12 k12 V12 (A11.ext E12) (F11_coder.ext E12) (F11_value.ext E12) n11) e12 hS hk12 hEL RR12.1 (by decide) (by decide) (by decide) (by decide) (g := (mkF m 11 #[.val (.int n), .val (.int q0), .val (.int q1)] [(.ref a12), (.ref a11), (.ref a11)])) rfl (by rw [hml]; rfl) (a := a11) (argsL := [(.ref a12)]) (rest := [(.ref a11)]) (lenOf pd_oACcV rfl) rfl (by show 2 * 0 + _ ≤ _; exact Nat.le_of_eq rfl) (hb hby d1_11)
    obtain ⟨rfl, Nq13, Kq13, A13, C13, d13, kd13, F13, V13⟩ := q13
    have N13 := Fr.app N0 Nq13
    have O13 := O12.keep Kq13 (allS n11 all0)
    have K13 := K12.trans Kq13 (allS (Or.inr z11) all0)
    have RR13 := RR12.trans RC13
    refine Fin.go st13 ?_
    have V13_a12 := (V12.keep Kq13 (ninS (Ne.symm (Nat.ne_of_lt (Nat.lt_of_lt_of_eq A11.lt g12.symm))) nin0))
    show Fin _ p e below s _ _ _ T13 (mkF m 14 #[.val (.int n), .val (.int q0), .val (.int q1)] [(.ref a11)])
    exact Fin.leaveH X13 hS13 (Nat.le_refl T13.heap.size) hZ13 hEL (rfl : T13.heap = T13.heap) RR13 hlk (v := some (.ref a11)) (fun h => by rw [hret] at h; cases h) (by decide) (by decide) ⟨a11, rfl, N13, K13, (by rw [show strL n q0 q1 = [] from by simp [strL, c1]]; exact ⟨Nat.le_refl _, A13.lt, A13, C13, d13, kd13, V13.lt, F13, V13⟩), z11⟩ (fun fs hr => retOut X13 hx hret rfl (Or.inr (Or.inr (Or.inr (Or.inr ⟨rfl, rfl, rfl⟩)))) (hb hby d1_14) hr)
  · refine Fin.go (fun _ k => XS.ifYes X0.here hx rfl (pc0 := 1) (pc' := 15) rfl (hb hby d1_1) rfl (XT.i0_ne_t c1) (by decide) (by decide) k) ?_
    show Fin _ p e below s _ _ _ s₁ (mkF m 15 #[.val (.int n), .val (.int q0), .val (.int q1)] [])
    refine Fin.go (fun _ k => XS.iloadN X0.here hx rfl (hb hby d1_15) rfl k) ?_
    refine Fin.go (fun _ k => XS.iconst X0.here hx rfl (hb hby d1_16) k) ?_
    by_cases c17 : n = (1 : Int32)
    · refine Fin.go (fun _ k => XS.icmpNo X0.here hx rfl (hb hby d1_17) rfl (XT.ii_ne_f c17) k) ?_
      show Fin _ p e below s _ _ _ s₁ (mkF m 20 #[.val (.int n), .val (.int q0), .val (.int q1)] [])
      obtain ⟨T14, h14, X14, e14, E14, A14, D14, U14, st14⟩ := newO X0 hx hZ hown (hw _ w_6) (hw _ w_7) (hw _ w_8) e0 (g := (mkF m 20 #[.val (.int n), .val (.int q0), .val (.int q1)] [])) rfl (hb hby d1_20) (by decide) (by decide)
      obtain ⟨a14, g14⟩ : ∃ z, z = h0.size := ⟨_, rfl⟩
      rw [← g14] at A14 D14 U14 st14
      refine Fin.go st14 ?_
      have O14 := O.ext E14
      have K14 := K0.ext E14
      have hk14 := Nat.le_trans (Nat.zero_le _) E14.1
      have RR14 := RR0.trans (CHr.ext E14 RR0.1)
      have n14 : n0 ≤ a14 := by have := O.2.1; have := O.1; omega
      have z14 : h0.size ≤ a14 := by have := K0.1; omega
      have sf14 := (Safe.new (Z := Z) (EL := EL) (vm := s.vm) (Nat.le_of_eq g14.symm)).ext E14 RR0.1
      have F14_value : Fld Z h14 a14 "java/lang/String" "value" "[B" .null := D14 (Or.inr (hw _ w_22)) (ty := (.array .byte)) (by decide)
      have F14_coder : Fld Z h14 a14 "java/lang/String" "coder" "B" (.int (0 : Int32)) := D14 (Or.inr (hw _ w_23)) (ty := .byte) (by decide)
      show Fin _ p e below s _ _ _ T14 (mkF m 23 #[.val (.int n), .val (.int q0), .val (.int q1)] [(.ref a14)])
      refine Fin.go (fun _ k => XS.dup X14.here hx rfl (hb hby d1_23) rfl rfl k) ?_
      refine Fin.go (fun _ k => XS.iconst X14.here hx rfl (hb hby d1_24) k) ?_
      obtain ⟨T15, h15, k15, X15, e15, E15, A15, st15⟩ := newP X14 hx hZ (aty := .char) (hw _ w_9) e14 (g := (mkF m 25 #[.val (.int n), .val (.int q0), .val (.int q1)] [(.int (1 : Int32)), (.ref a14), (.ref a14)])) rfl (hb hby d1_25) rfl (by decide : ¬ ((1 : Int32) < (0 : Int32))) (cap := 1) (by decide) (by decide) (by decide) (by decide)
      obtain ⟨a15, g15⟩ : ∃ z, z = h14.size := ⟨_, rfl⟩
      rw [← g15] at A15 st15
      refine Fin.go st15 ?_
      have O15 := O14.ext E15
      have K15 := K14.ext E15
      have hk15 := Nat.le_trans hk14 E15.1
      have RR15 := RR14.trans (CHr.ext E15 RR14.1)
      have n15 : n0 ≤ a15 := by have := O14.2.1; have := O14.1; omega
      have z15 : h0.size ≤ a15 := by have := K14.1; omega
      have V15 : Arv Z h15 a15 k15 .char (1 : Int32) [(.int (0 : Int32))] (.int (0 : Int32)) := (Arv.new A15 (by decide)).pad (pad_rep [] (.int (0 : Int32)) 1)
      show Fin _ p e below s _ _ _ T15 (mkF m 27 #[.val (.int n), .val (.int q0), .val (.int q1)] [(.ref a15), (.ref a14), (.ref a14)])
      refine Fin.go (fun _ k => XS.dup X15.here hx rfl (hb hby d1_27) rfl rfl k) ?_
      refine Fin.go (fun _ k => XS.iconst X15.here hx rfl (hb hby d1_28) k) ?_
      refine Fin.go (fun _ k => XS.iloadN X15.here hx rfl (hb hby d1_29) rfl k) ?_
      obtain ⟨c16, B16, q16, S16, M16, H16, G16⟩ := id V15
      obtain ⟨T16, h16, X16, e16, W16, st16⟩ := stC X15 hx hZ e15 B16 (j := (0 : Int32)) (inb_of S16 ⟨(by decide : ¬ ((0 : Int32) < (0 : Int32))), (by decide : (0 : Int32) < (1 : Int32))⟩) (g := (mkF m 30 #[.val (.int n), .val (.int q0), .val (.int q1)] [(.int q0), (.int (0 : Int32)), (.ref a15), (.ref a15), (.ref a14), (.ref a14)])) rfl rfl (hb hby d1_30)
      refine Fin.go st16 ?_
      have V16 : Arv Z h16 a15 k15 .char (1 : Int32) [(.int q0)] (.int (0 : Int32)) := (by have q : Arv Z h16 a15 k15 .char (1 : Int32) [(.int (nar .char q0))] (.int (0 : Int32)) := (Arv.set B16 q16 S16 M16 H16 G16 (fits_nar_char _) W16 0 rfl (Nat.le_of_ble_eq_true rfl)); rwa [nar_id r0] at q)
      have N16 := Fr.snoc X16 N0 n15
      have O16 := O15.wr W16 n15
      have K16 := K15.wr W16 (Or.inr z15)
      have hk16 := Nat.le_trans hk15 (Keep.of_wr W16).1
      have RR16 := RR15.trans (CHr.wr W16 (Safe.arv hZ.alike V15 (by decide)) RR15.1)
      have sf16_a14 := (Safe.wr W16 (Safe.arv hZ.alike V15 (by decide)) RR15.1 (sf14.ext E15 RR14.1))
      have F16_a14_value := ((F14_value.ext E15).other W16 (Or.inl (Nat.ne_of_lt (Nat.lt_of_lt_of_eq A14.lt g15.symm))))
      have F16_a14_coder := ((F14_coder.ext E15).other W16 (Or.inl (Nat.ne_of_lt (Nat.lt_of_lt_of_eq A14.lt g15.symm))))
      show Fin _ p e below s _ _ _ T16 (mkF m 31 #[.val (.int n), .val (.int q0), .val (.int q1)] [(.ref a15), (.ref a14), (.ref a14)])
      obtain ⟨v17, T17, L17, X17, q17, st17⟩ := callCt X16 hx hZ (y := (⟨"java/lang/String", "<init>", "([C)V"⟩ : MethodName)) rfl hown (hw _ w_10) (hw _ w_11) (hw _ w_8) (hw _ w_12) (by decide) (W := 1) (rmStr1 l Z a0 hw n0 h16 O16 a14 a15 k15 q0 cs S_cs hcs V16 ((A14.ext E15).wr W16) F16_a14_coder F16_a14_value r0.2 n14 (Ne.symm (Nat.ne_of_lt (Nat.lt_of_lt_of_eq A14.lt g15.symm)))) e16 (by decide) (by decide) (by decide) (by decide) (g := (mkF m 31 #[.val (.int n), .val (.int q0), .val (.int q1)] [(.ref a15), (.ref a14), (.ref a14)])) rfl (by rw [hml]; rfl) (a := a14) (argsL := [(.ref a15)]) (rest := [(.ref a14)]) (lenOf pd_oACcV rfl) rfl (by show 2 * 0 + _ ≤ _; exact Nat.le_of_eq rfl) (hb hby d1_31)
      obtain ⟨rfl, Nq17, Kq17, A17, C17, d17, kd17, F17, V17, zd17⟩ := q17
      have N17 := Fr.app N16 Nq17
      have O17 := O16.keep Kq17 (allS n14 all0)
      have K17 := K16.trans Kq17 (allS (Or.inr z14) all0)
      have RR17 := RR16.trans (CHr.keep Kq17 (sfS sf16_a14 sf0) RR16.1)
      have hk17 := Nat.le_trans hk16 Kq17.1
      refine Fin.go st17 ?_
      have V17_a15 := (V16.keep Kq17 (ninS (Ne.symm (Nat.ne_of_lt (Nat.lt_of_lt_of_eq A14.lt g15.symm))) nin0))
      show Fin _ p e below s _ _ _ T17 (mkF m 34 #[.val (.int n), .val (.int q0), .val (.int q1)] [(.ref a14)])
      have nzd17 : n0 ≤ d17 := Nat.le_trans (by have := O16.1; have := O16.2.1; omega) zd17
      have hzd17 : h0.size ≤ d17 := Nat.le_trans K16.1 zd17
      exact Fin.leaveH X17 hS hk17 hZ hEL (rfl : T17.heap = T17.heap) RR17 hlk (v := some (.ref a14)) (fun h => by rw [hret] at h; cases h) (by decide) (by decide) ⟨a14, rfl, N17, K17, (by rw [show strL n q0 q1 = [q0] from by simp [strL, c1, c17]]; exact ⟨Nat.le_refl _, A17.lt, A17, C17, d17, kd17, V17.lt, F17, V17⟩), z14⟩ (fun fs hr => retOut X17 hx hret rfl (Or.inr (Or.inr (Or.inr (Or.inr ⟨rfl, rfl, rfl⟩)))) (hb hby d1_34) hr)
    · refine Fin.go (fun _ k => XS.icmpYes X0.here hx rfl (pc0 := 17) (pc' := 35) rfl (hb hby d1_17) rfl (XT.ii_ne_t c17) (by decide) (by decide) k) ?_
      show Fin _ p e below s _ _ _ s₁ (mkF m 35 #[.val (.int n), .val (.int q0), .val (.int q1)] [])
      obtain ⟨T18, h18, X18, e18, E18, A18, D18, U18, st18⟩ := newO X0 hx hZ hown (hw _ w_6) (hw _ w_7) (hw _ w_8) e0 (g := (mkF m 35 #[.val (.int n), .val (.int q0), .val (.int q1)] [])) rfl (hb hby d1_35) (by decide) (by decide)
      obtain ⟨a18, g18⟩ : ∃ z, z = h0.size := ⟨_, rfl⟩
      rw [← g18] at A18 D18 U18 st18
      refine Fin.go st18 ?_
      have O18 := O.ext E18
      have K18 := K0.ext E18
      have hk18 := Nat.le_trans (Nat.zero_le _) E18.1
      have RR18 := RR0.trans (CHr.ext E18 RR0.1)
      have n18 : n0 ≤ a18 := by have := O.2.1; have := O.1; omega
      have z18 : h0.size ≤ a18 := by have := K0.1; omega
      have sf18 := (Safe.new (Z := Z) (EL := EL) (vm := s.vm) (Nat.le_of_eq g18.symm)).ext E18 RR0.1
      have F18_value : Fld Z h18 a18 "java/lang/String" "value" "[B" .null := D18 (Or.inr (hw _ w_22)) (ty := (.array .byte)) (by decide)
      have F18_coder : Fld Z h18 a18 "java/lang/String" "coder" "B" (.int (0 : Int32)) := D18 (Or.inr (hw _ w_23)) (ty := .byte) (by decide)
      show Fin _ p e below s _ _ _ T18 (mkF m 38 #[.val (.int n), .val (.int q0), .val (.int q1)] [(.ref a18)])
      refine Fin.go (fun _ k => XS.dup X18.here hx rfl (hb hby d1_38) rfl rfl k) ?_
      refine Fin.go (fun _ k => XS.iconst X18.here hx rfl (hb hby d1_39) k) ?_
      obtain ⟨T19, h19, k19, X19, e19, E19, A19, st19⟩ := newP X18 hx hZ (aty := .char) (hw _ w_9) e18 (g := (mkF m 40 #[.val (.int n), .val (.int q0), .val (.int q1)] [(.int (2 : Int32)), (.ref a18), (.ref a18)])) rfl (hb hby d1_40) rfl (by decide : ¬ ((2 : Int32) < (0 : Int32))) (cap := 2) (by decide) (by decide) (by decide) (by decide)
      obtain ⟨a19, g19⟩ : ∃ z, z = h18.size := ⟨_, rfl⟩
      rw [← g19] at A19 st19
      refine Fin.go st19 ?_
      have O19 := O18.ext E19
      have K19 := K18.ext E19
      have hk19 := Nat.le_trans hk18 E19.1
      have RR19 := RR18.trans (CHr.ext E19 RR18.1)
      have n19 : n0 ≤ a19 := by have := O18.2.1; have := O18.1; omega
      have z19 : h0.size ≤ a19 := by have := K18.1; omega
      have V19 : Arv Z h19 a19 k19 .char (2 : Int32) [(.int (0 : Int32)), (.int (0 : Int32))] (.int (0 : Int32)) := (Arv.new A19 (by decide)).pad (pad_rep [] (.int (0 : Int32)) 2)
      show Fin _ p e below s _ _ _ T19 (mkF m 42 #[.val (.int n), .val (.int q0), .val (.int q1)] [(.ref a19), (.ref a18), (.ref a18)])
      refine Fin.go (fun _ k => XS.dup X19.here hx rfl (hb hby d1_42) rfl rfl k) ?_
      refine Fin.go (fun _ k => XS.iconst X19.here hx rfl (hb hby d1_43) k) ?_
      refine Fin.go (fun _ k => XS.iloadN X19.here hx rfl (hb hby d1_44) rfl k) ?_
      obtain ⟨c20, B20, q20, S20, M20, H20, G20⟩ := id V19
      obtain ⟨T20, h20, X20, e20, W20, st20⟩ := stC X19 hx hZ e19 B20 (j := (0 : Int32)) (inb_of S20 ⟨(by decide : ¬ ((0 : Int32) < (0 : Int32))), (by decide : (0 : Int32) < (2 : Int32))⟩) (g := (mkF m 45 #[.val (.int n), .val (.int q0), .val (.int q1)] [(.int q0), (.int (0 : Int32)), (.ref a19), (.ref a19), (.ref a18), (.ref a18)])) rfl rfl (hb hby d1_45)
      refine Fin.go st20 ?_
      have V20 : Arv Z h20 a19 k19 .char (2 : Int32) [(.int q0), (.int (0 : Int32))] (.int (0 : Int32)) := (by have q : Arv Z h20 a19 k19 .char (2 : Int32) [(.int (nar .char q0)), (.int (0 : Int32))] (.int (0 : Int32)) := (Arv.set B20 q20 S20 M20 H20 G20 (fits_nar_char _) W20 0 rfl (Nat.le_of_ble_eq_true rfl)); rwa [nar_id r0] at q)
      have N20 := Fr.snoc X20 N0 n19
      have O20 := O19.wr W20 n19
      have K20 := K19.wr W20 (Or.inr z19)
      have hk20 := Nat.le_trans hk19 (Keep.of_wr W20).1
      have RR20 := RR19.trans (CHr.wr W20 (Safe.arv hZ.alike V19 (by decide)) RR19.1)
      have sf20_a18 := (Safe.wr W20 (Safe.arv hZ.alike V19 (by decide)) RR19.1 (sf18.ext E19 RR18.1))
      have F20_a18_value := ((F18_value.ext E19).other W20 (Or.inl (Nat.ne_of_lt (Nat.lt_of_lt_of_eq A18.lt g19.symm))))
      have F20_a18_coder := ((F18_coder.ext E19).other W20 (Or.inl (Nat.ne_of_lt (Nat.lt_of_lt_of_eq A18.lt g19.symm))))
      show Fin _ p e below s _ _ _ T20 (mkF m 46 #[.val (.int n), .val (.int q0), .val (.int q1)] [(.ref a19), (.ref a18), (.ref a18)])
      refine Fin.go (fun _ k => XS.dup X20.here hx rfl (hb hby d1_46) rfl rfl k) ?_
      refine Fin.go (fun _ k => XS.iconst X20.here hx rfl (hb hby d1_47) k) ?_
      refine Fin.go (fun _ k => XS.iloadN X20.here hx rfl (hb hby d1_48) rfl k) ?_
      obtain ⟨c21, B21, q21, S21, M21, H21, G21⟩ := id V20
      obtain ⟨T21, h21, X21, e21, W21, st21⟩ := stC X20 hx hZ e20 B21 (j := (1 : Int32)) (inb_of S21 ⟨(by decide : ¬ ((1 : Int32) < (0 : Int32))), (by decide : (1 : Int32) < (2 : Int32))⟩) (g := (mkF m 49 #[.val (.int n), .val (.int q0), .val (.int q1)] [(.int q1), (.int (1 : Int32)), (.ref a19), (.ref a19), (.ref a18), (.ref a18)])) rfl rfl (hb hby d1_49)
      refine Fin.go st21 ?_
      have V21 : Arv Z h21 a19 k19 .char (2 : Int32) [(.int q0), (.int q1)] (.int (0 : Int32)) := (by have q : Arv Z h21 a19 k19 .char (2 : Int32) [(.int q0), (.int (nar .char q1))] (.int (0 : Int32)) := (Arv.set B21 q21 S21 M21 H21 G21 (fits_nar_char _) W21 1 rfl (Nat.le_of_ble_eq_true rfl)); rwa [nar_id r1] at q)
      have N21 := Fr.snoc X21 N20 n19
      have O21 := O20.wr W21 n19
      have K21 := K20.wr W21 (Or.inr z19)
      have hk21 := Nat.le_trans hk20 (Keep.of_wr W21).1
      have RR21 := RR20.trans (CHr.wr W21 (Safe.arv hZ.alike V20 (by decide)) RR20.1)
      have sf21_a18 := (Safe.wr W21 (Safe.arv hZ.alike V20 (by decide)) RR20.1 sf20_a18)
      have F21_a18_value := (F20_a18_value.other W21 (Or.inl (Nat.ne_of_lt (Nat.lt_of_lt_of_eq A18.lt g19.symm))))
      have F21_a18_coder := (F20_a18_coder.other W21 (Or.inl (Nat.ne_of_lt (Nat.lt_of_lt_of_eq A18.lt g19.symm))))
      show Fin _ p e below s _ _ _ T21 (mkF m 50 #[.val (.int n), .val (.int q0), .val (.int q1)] [(.ref a19), (.ref a18), (.ref a18)])
      obtain ⟨v22, T22, L22, X22, q22, st22⟩ := callCt X21 hx hZ (y := (⟨"java/lang/String", "<init>", "([C)V"⟩ : MethodName)) rfl hown (hw _ w_10) (hw _ w_11) (hw _ w_8) (hw _ w_12) (by decide) (W := 1) (rmStr2 l Z a0 hw n0 h21 O21 a18 a19 k19 q0 q1 cs S_cs hcs V21 (((A18.ext E19).wr W20).wr W21) F21_a18_coder F21_a18_value r0.2 r1.2 n18 (Ne.symm (Nat.ne_of_lt (Nat.lt_of_lt_of_eq A18.lt g19.symm)))) e21 (by decide) (by decide) (by decide) (by decide) (g := (mkF m 50 #[.val (.int n), .val (.int q0), .val (.int q1)] [(.ref a19), (.ref a18), (.ref a18)])) rfl (by rw [hml]; rfl) (a := a18) (argsL := [(.ref a19)]) (rest := [(.ref a18)]) (lenOf pd_oACcV rfl) rfl (by show 2 * 0 + _ ≤ _; exact Nat.le_of_eq rfl) (hb hby d1_50)
      obtain ⟨rfl, Nq22, Kq22, A22, C22, d22, kd22, F22, V22, zd22⟩ := q22
      have N22 := Fr.app N21 Nq22
      have O22 := O21.keep Kq22 (allS n18 all0)
      have K22 := K21.trans Kq22 (allS (Or.inr z18) all0)
      have RR22 := RR21.trans (CHr.keep Kq22 (sfS sf21_a18 sf0) RR21.1)
      have hk22 := Nat.le_trans hk21 Kq22.1
      refine Fin.go st22 ?_
      have V22_a19 := (V21.keep Kq22 (ninS (Ne.symm (Nat.ne_of_lt (Nat.lt_of_lt_of_eq A18.lt g19.symm))) nin0))
      show Fin _ p e below s _ _ _ T22 (mkF m 53 #[.val (.int n), .val (.int q0), .val (.int q1)] [(.ref a18)])
      have nzd22 : n0 ≤ d22 := Nat.le_trans (by have := O21.1; have := O21.2.1; omega) zd22
      have hzd22 : h0.size ≤ d22 := Nat.le_trans K21.1 zd22
      exact Fin.leaveH X22 hS hk22 hZ hEL (rfl : T22.heap = T22.heap) RR22 hlk (v := some (.ref a18)) (fun h => by rw [hret] at h; cases h) (by decide) (by decide) ⟨a18, rfl, N22, K22, (by rw [show strL n q0 q1 = [q0, q1] from by simp [strL, c1, c17]]; exact ⟨Nat.le_refl _, A22.lt, A22, C22, d22, kd22, V22.lt, F22, V22⟩), z18⟩ (fun fs hr => retOut X22 hx hret rfl (Or.inr (Or.inr (Or.inr (Or.inr ⟨rfl, rfl, rfl⟩)))) (hb hby d1_53) hr)
set_option maxRecDepth 65536 in
set_option maxHeartbeats 40000000 in
theorem rmRec (l : Launch) (Z : State) (a0 : Array Value) (hw : ∀ d ∈ tables_1, d.before a0 Z = true) (n0 : Nat) (h0 : Heap) (O : Old Z n0 h0) (a : Addr) :
    ConW FrameEnd l Z [] (⟨"java/lang/Record", "<init>", "()V"⟩ : MethodName) jdk_30_method_1_code 1 none ({ frames := 1, cells := 0, slots := 0, locals := 12 } : Room) #[(.ref a)] h0 (Pure h0 none) := by
  refine conOf (plainFor_of_name pn_java_lang_Record) ?_
  intro p e s m below mth cc s₁ X0 hx hby hml hown hnm hret hlk hZ e0
  have N0 := Fr.nil n0
  refine Fin.came (castTop (t := _) (by first | (simp [entryFrame, mkF, argsToLocals, Value.category]; done) | rfl) (Steps.refl _) : Steps p.tables e below (s₁.setTop (entryFrame m #[(.ref a)] 1)) (s₁.setTop (mkF m 0 #[.val (.ref a)] []))) ?_
  show Fin _ p e below s _ _ _ s₁ (mkF m 0 #[.val (.ref a)] [])
  refine Fin.go (fun _ k => XS.aloadN X0.here hx rfl (hb hby d7_0) rfl rfl k) ?_
  obtain ⟨T11, X11, e11, st11⟩ := initO X0 hx hZ hown (hw _ w_48) (hw _ w_18) (hw _ w_19) e0 (g := (mkF m 1 #[.val (.ref a)] [(.ref a)])) rfl (by rw [hml]; rfl) rfl (hb hby d7_1) (by decide) (W := 0) (by show 2 * 0 + _ ≤ _; exact Nat.le_of_eq rfl) (by decide)
  refine Fin.go st11 ?_
  show Fin _ p e below s _ _ _ T11 (mkF m 4 #[.val (.ref a)] [])
  exact Fin.leaveN X11 e11 hlk (v := none) (fun _ => rfl) (by decide) (by decide) ⟨rfl, rfl, rfl⟩ (fun fs hr => X11.returnOut hx hret (hb hby d7_4) hr)
set_option maxRecDepth 65536 in
set_option maxHeartbeats 40000000 in
theorem rmRNN (l : Launch) (Z : State) (a0 : Array Value) (hw : ∀ d ∈ tables_1, d.before a0 Z = true) (n0 : Nat) (h0 : Heap) (O : Old Z n0 h0) (a b : Addr) :
    ConW FrameEnd l Z [] (⟨"java/util/Objects", "requireNonNull", "(Ljava/lang/Object;Ljava/lang/String;)Ljava/lang/Object;"⟩ : MethodName) jdk_31_method_11_code 2 (some (.object "java/lang/Object")) ({ frames := 0, cells := 0, slots := 0, locals := 0 } : Room) #[(.ref a), (.ref b)] h0 (Pure h0 (some (.ref a))) := by
  refine conOf (plainFor_of_name pn_java_util_Objects) ?_
  intro p e s m below mth cc s₁ X0 hx hby hml hown hnm hret hlk hZ e0
  have N0 := Fr.nil n0
  refine Fin.came (castTop (t := _) (by first | (simp [entryFrame, mkF, argsToLocals, Value.category]; done) | rfl) (Steps.refl _) : Steps p.tables e below (s₁.setTop (entryFrame m #[(.ref a), (.ref b)] 2)) (s₁.setTop (mkF m 0 #[.val (.ref a), .val (.ref b)] []))) ?_
  show Fin _ p e below s _ _ _ s₁ (mkF m 0 #[.val (.ref a), .val (.ref b)] [])
  refine Fin.go (fun _ k => XS.aloadN X0.here hx rfl (hb hby d8_0) rfl rfl k) ?_
  refine Fin.go (fun _ k => XT.ifnonnullYes X0.here hx rfl (pc0 := 1) (pc' := 13) rfl (hb hby d8_1) rfl (by decide) (by decide) k) ?_
  refine Fin.go (fun _ k => XS.aloadN X0.here hx rfl (hb hby d8_13) rfl rfl k) ?_
  exact Fin.leaveN X0 e0 hlk (v := some (.ref a)) (fun h => by rw [hret] at h; cases h) (by decide) (by decide) ⟨rfl, rfl, rfl⟩ (fun fs hr => retOut X0 hx hret rfl (Or.inr (Or.inr (Or.inr (Or.inr ⟨rfl, rfl, rfl⟩)))) (hb hby d8_14) hr)
set_option maxRecDepth 65536 in
set_option maxHeartbeats 40000000 in
theorem rmAct (l : Launch) (Z : State) (a0 : Array Value) (hw : ∀ d ∈ tables_1, d.before a0 Z = true) (n0 : Nat) (h0 : Heap) (O : Old Z n0 h0) (a pr : Addr) (A : Exa Z h0 a "com/example/grantwell/grantwell/catalog/Action") (F1 : Fld Z h0 a "com/example/grantwell/grantwell/catalog/Action" "privilege" "Lcom/example/grantwell/grantwell/catalog/Privilege;" .null) (F2 : Fld Z h0 a "com/example/grantwell/grantwell/catalog/Action" "column" "Ljava/lang/String;" .null) (na : n0 ≤ a) :
    ConHW l Z EL [] (⟨"com/example/grantwell/grantwell/catalog/Action", "<init>", "(Lcom/example/grantwell/grantwell/catalog/Privilege;Ljava/lang/String;)V"⟩ : MethodName) prog_3_method_1_code 3 none ({ frames := 2, cells := 2, slots := 40, locals := 24 } : Room) #[(.ref a), (.ref pr), .null] h0 (fun v h L => v = none ∧ Fr n0 L ∧ Keep h0 h [a]) := by
  refine conOfH (plainFor_of_name pn_com_example_grantwell_grantwell_catalog_Action) ?_
  intro p e s m below mth cc s₁ X0 hx hby hml hown hnm hret hlk hZ e0 hS RR0
  have N0 := Fr.nil n0
  have hEL := elW hw
  have K0 := Keep.refl h0 ([a] : List Addr)
  refine Fin.came (castTop (t := _) (by first | (simp [entryFrame, mkF, argsToLocals, Value.category]; done) | rfl) (Steps.refl _) : Steps p.tables e below (s₁.setTop (entryFrame m #[(.ref a), (.ref pr), .null] 3)) (s₁.setTop (mkF m 0 #[.val (.ref a), .val (.ref pr), .val .null] []))) ?_
  show Fin _ p e below s _ _ _ s₁ (mkF m 0 #[.val (.ref a), .val (.ref pr), .val .null] [])
  refine Fin.go (fun _ k => XS.aloadN X0.here hx rfl (hb hby d6_0) rfl rfl k) ?_
  obtain ⟨v11, T11, L11, X11, q11, st11⟩ := callCt X0 hx hZ (y := (⟨"java/lang/Record", "<init>", "()V"⟩ : MethodName)) rfl hown (hw _ w_43) (hw _ w_44) (hw _ w_46) (hw _ w_47) (by decide) (W := 0) (rmRec l Z a0 hw n0 h0 O a) e0 (by decide) (by decide) (by decide) (by decide) (g := (mkF m 1 #[.val (.ref a), .val (.ref pr), .val .null] [(.ref a)])) rfl (by rw [hml]; rfl) (a := a) (argsL := []) (rest := []) (lenOf pd_ocV rfl) rfl (by show 2 * 0 + _ ≤ _; exact Nat.le_of_eq rfl) (hb hby d6_1)
  obtain ⟨rfl, e11, rfl⟩ := q11
  have N11 := Fr.app N0 (Fr.nil n0)
  refine Fin.go st11 ?_
  show Fin _ p e below s _ _ _ T11 (mkF m 4 #[.val (.ref a), .val (.ref pr), .val .null] [])
  refine Fin.go (fun _ k => XS.aloadN X11.here hx rfl (hb hby d6_4) rfl rfl k) ?_
  show Fin _ p e below s _ _ _ T11 (mkF m 5 #[.val (.ref a), .val (.ref pr), .val .null] [(.ref pr)])
  obtain ⟨a12, T12, h12, k12, X12, e12, E12, hS12, hj12, hZ12, hown12, RC12, lt12, st12⟩ := ldcOH X11 hx hZ hown (hw _ w_49) (strW hw) e11 hS (Nat.zero_le _) hEL RR0.1 (g := (mkF m 5 #[.val (.ref a), .val (.ref pr), .val .null] [(.ref pr)])) rfl (hb hby d6_5) (n := 36) (by decide) (by decide) (by decide) (by decide)
  refine Fin.go st12 ?_
  have O12 := O.ext E12
  have K12 := K0.ext E12
  have RR12 := RR0.trans RC12
  show Fin _ p e below s _ _ _ T12 (mkF m 7 #[.val (.ref a), .val (.ref pr), .val .null] [(.ref a12), (.ref pr)])
  obtain ⟨v13, T13, L13, X13, q13, st13⟩ := callSt X12 hx hZ12 (y := (⟨"java/util/Objects", "requireNonNull", "(Ljava/lang/Object;Ljava/lang/String;)Ljava/lang/Object;"⟩ : MethodName)) hown12 (hw _ w_50) (hw _ w_51) (hw _ w_52) (hw _ w_53) (by decide) (W := 0) (rmRNN l Z a0 hw n0 h12 O12 pr a12) e12 (by decide) (by decide) (by decide) (by decide) (g := (mkF m 7 #[.val (.ref a), .val (.ref pr), .val .null] [(.ref a12), (.ref pr)])) rfl (by rw [hml]; rfl) (argsL := [(.ref pr), (.ref a12)]) (rest := []) (lenOf pd_oLjava_lang_Object_Ljava_lang_String_cLjava_lang_Object_ rfl) rfl (by show 2 * 0 + _ ≤ _; exact Nat.le_of_eq rfl) (hb hby d6_7)
  obtain ⟨rfl, e13, rfl⟩ := q13
  have N13 := Fr.app N11 (Fr.nil n0)
  refine Fin.go st13 ?_
  show Fin _ p e below s _ _ _ T13 (mkF m 10 #[.val (.ref a), .val (.ref pr), .val .null] [(.ref pr)])
  refine Fin.go (fun _ k => XT.pop X13.here hx rfl (hb hby d6_10) rfl rfl k) ?_
  refine Fin.go (fun _ k => XS.aloadN X13.here hx rfl (hb hby d6_11) rfl rfl k) ?_
  refine Fin.go (fun _ k => XS.ifnullYes X13.here hx rfl (pc0 := 12) (pc' := 39) rfl (hb hby d6_12) rfl (by decide) (by decide) k) ?_
  refine Fin.go (fun _ k => XS.aloadN X13.here hx rfl (hb hby d6_39) rfl rfl k) ?_
  show Fin _ p e below s _ _ _ T13 (mkF m 40 #[.val (.ref a), .val (.ref pr), .val .null] [(.ref a)])
  refine Fin.go (fun _ k => XS.aloadN X13.here hx rfl (hb hby d6_40) rfl rfl k) ?_
  obtain ⟨T14, h14, X14, e14, W14, st14⟩ := putF X13 hx hZ12 hown12 (host := "") (Or.inl (hw _ w_54)) Via.refl e13 (F1.ext E12) (A.ext E12) (Or.inr ⟨(hw _ w_55), rfl, hnm⟩) (hw _ w_39) (ty := (.object "com/example/grantwell/grantwell/catalog/Privilege")) (by decide) rfl rfl (g := (mkF m 41 #[.val (.ref a), .val (.ref pr), .val .null] [(.ref pr), (.ref a)])) rfl rfl (hb hby d6_41)
  refine Fin.go st14 ?_
  have N14 := Fr.snoc X14 N13 na
  have O14 := O12.wr W14 na
  have K14 := K12.wr W14 (Or.inl (List.mem_of_getElem? (i := 0) rfl))
  have hk14 := Nat.le_trans hj12 (Keep.of_wr W14).1
  have RR14 := RR12.trans (CHr.wr W14 (Safe.exa hZ12.alike (A.ext E12) (by decide) (by decide)) RR12.1)
  have F14_a_column := ((F2.ext E12).other W14 (Or.inr (slot_ne (Or.inr (hw _ w_57)) (Or.inr (hw _ w_55)) (by decide) (t := (.object "java/lang/String")) (t' := (.object "com/example/grantwell/grantwell/catalog/Privilege")) (by decide) (by decide))))
  show Fin _ p e below s _ _ _ T14 (mkF m 44 #[.val (.ref a), .val (.ref pr), .val .null] [])
  refine Fin.go (fun _ k => XS.aloadN X14.here hx rfl (hb hby d6_44) rfl rfl k) ?_
  refine Fin.go (fun _ k => XS.aloadN X14.here hx rfl (hb hby d6_45) rfl rfl k) ?_
  obtain ⟨T15, h15, X15, e15, W15, st15⟩ := putF X14 hx hZ12 hown12 (host := "") (Or.inl (hw _ w_56)) Via.refl e14 F14_a_column ((A.ext E12).wr W14) (Or.inr ⟨(hw _ w_57), rfl, hnm⟩) (hw _ w_39) (ty := (.object "java/lang/String")) (by decide) rfl rfl (g := (mkF m 46 #[.val (.ref a), .val (.ref pr), .val .null] [.null, (.ref a)])) rfl rfl (hb hby d6_46)
  refine Fin.go st15 ?_
  have N15 := Fr.snoc X15 N14 na
  have O15 := O14.wr W15 na
  have K15 := K14.wr W15 (Or.inl (List.mem_of_getElem? (i := 0) rfl))
  have hk15 := Nat.le_trans hk14 (Keep.of_wr W15).1
  have RR15 := RR14.trans (CHr.wr W15 (Safe.exa hZ12.alike ((A.ext E12).wr W14) (by decide) (by decide)) RR14.1)
  have F15_a_privilege := (((F1.ext E12).same W14).other W15 (Or.inr (slot_ne (Or.inr (hw _ w_55)) (Or.inr (hw _ w_57)) (by decide) (t := (.object "com/example/grantwell/grantwell/catalog/Privilege")) (t' := (.object "java/lang/String")) (by decide) (by decide))))
  show Fin _ p e below s _ _ _ T15 (mkF m 49 #[.val (.ref a), .val (.ref pr), .val .null] [])
  exact Fin.leaveH X15 hS12 hk15 hZ12 hEL e15 RR15 hlk (v := none) (fun _ => rfl) (by decide) (by decide) ⟨rfl, N15, K15⟩ (fun fs hr => X15.returnOut hx hret (hb hby d6_49) hr)
set_option maxRecDepth 65536 in
set_option maxHeartbeats 40000000 in
theorem rmOT (l : Launch) (Z : State) (a0 : Array Value) (hw : ∀ d ∈ tables_1, d.before a0 Z = true) (n0 : Nat) (h0 : Heap) (O : Old Z n0 h0) (pr : Addr) :
    ConHW l Z EL [] (⟨"com/example/grantwell/grantwell/catalog/Action", "onTable", "(Lcom/example/grantwell/grantwell/catalog/Privilege;)Lcom/example/grantwell/grantwell/catalog/Action;"⟩ : MethodName) prog_3_method_2_code 1 (some (.object "com/example/grantwell/grantwell/catalog/Action")) ({ frames := 3, cells := 3, slots := 42, locals := 39 } : Room) #[(.ref pr)] h0 (fun v h L => ∃ o, v = some (.ref o) ∧ Fr n0 L ∧ Keep h0 h []) := by
  refine conOfH (plainFor_of_name pn_com_example_grantwell_grantwell_catalog_Action) ?_
  intro p e s m below mth cc s₁ X0 hx hby hml hown hnm hret hlk hZ e0 hS RR0
  have N0 := Fr.nil n0
  have hEL := elW hw
  have K0 := Keep.refl h0 ([] : List Addr)
  refine Fin.came (castTop (t := _) (by first | (simp [entryFrame, mkF, argsToLocals, Value.category]; done) | rfl) (Steps.refl _) : Steps p.tables e below (s₁.setTop (entryFrame m #[(.ref pr)] 1)) (s₁.setTop (mkF m 0 #[.val (.ref pr)] []))) ?_
  show Fin _ p e below s _ _ _ s₁ (mkF m 0 #[.val (.ref pr)] [])
  obtain ⟨T11, h11, X11, e11, E11, A11, D11, U11, st11⟩ := newO X0 hx hZ hown (hw _ w_38) (hw _ w_39) (hw _ w_36) e0 (g := (mkF m 0 #[.val (.ref pr)] [])) rfl (hb hby d5_0) (by decide) (by decide)
  obtain ⟨a11, g11⟩ : ∃ z, z = h0.size := ⟨_, rfl⟩
  rw [← g11] at A11 D11 U11 st11
  refine Fin.go st11 ?_
  have O11 := O.ext E11
  have K11 := K0.ext E11
  have hk11 := Nat.le_trans (Nat.zero_le _) E11.1
  have RR11 := RR0.trans (CHr.ext E11 RR0.1)
  have n11 : n0 ≤ a11 := by have := O.2.1; have := O.1; omega
  have z11 : h0.size ≤ a11 := by have := K0.1; omega
  have F11_privilege : Fld Z h11 a11 "com/example/grantwell/grantwell/catalog/Action" "privilege" "Lcom/example/grantwell/grantwell/catalog/Privilege;" .null := D11 (Or.inr (hw _ w_55)) (ty := (.object "com/example/grantwell/grantwell/catalog/Privilege")) (by decide)
  have F11_column : Fld Z h11 a11 "com/example/grantwell/grantwell/catalog/Action" "column" "Ljava/lang/String;" .null := D11 (Or.inr (hw _ w_57)) (ty := (.object "java/lang/String")) (by decide)
  show Fin _ p e below s _ _ _ T11 (mkF m 3 #[.val (.ref pr)] [(.ref a11)])
  refine Fin.go (fun _ k => XS.dup X11.here hx rfl (hb hby d5_3) rfl rfl k) ?_
  refine Fin.go (fun _ k => XS.aloadN X11.here hx rfl (hb hby d5_4) rfl rfl k) ?_
  refine Fin.go (fun _ k => XS.aconstNull X11.here hx rfl (hb hby d5_5) k) ?_
  obtain ⟨v12, T12, L12, X12, hS12, hZ12, hown12, RC12, q12, st12⟩ := callCtH X11 hx hZ (y := (⟨"com/example/grantwell/grantwell/catalog/Action", "<init>", "(Lcom/example/grantwell/grantwell/catalog/Privilege;Ljava/lang/String;)V"⟩ : MethodName)) rfl hown (hw _ w_40) (hw _ w_41) (hw _ w_36) (hw _ w_42) (by decide) (W := 1) (rmAct l Z a0 hw n0 h11 O11 a11 pr A11 F11_privilege F11_column n11) e11 hS hk11 hEL RR11.1 (by decide) (by decide) (by decide) (by decide) (g := (mkF m 6 #[.val (.ref pr)] [.null, (.ref pr), (.ref a11), (.ref a11)])) rfl (by rw [hml]; rfl) (a := a11) (argsL := [(.ref pr), .null]) (rest := [(.ref a11)]) (lenOf pd_oLcom_example_grantwell_grantwell_catalog_Privilege_Ljava_lang_String_cV rfl) rfl (by show 2 * 0 + _ ≤ _; exact Nat.le_of_eq rfl) (hb hby d5_6)
  obtain ⟨rfl, Nq12, Kq12⟩ := q12
  have N12 := Fr.app N0 Nq12
  have O12 := O11.keep Kq12 (allS n11 all0)
  have K12 := K11.trans Kq12 (allS (Or.inr z11) all0)
  have RR12 := RR11.trans RC12
  refine Fin.go st12 ?_
  show Fin _ p e below s _ _ _ T12 (mkF m 9 #[.val (.ref pr)] [(.ref a11)])
  exact Fin.leaveH X12 hS12 (Nat.le_refl T12.heap.size) hZ12 hEL (rfl : T12.heap = T12.heap) RR12 hlk (v := some (.ref a11)) (fun h => by rw [hret] at h; cases h) (by decide) (by decide) ⟨a11, rfl, N12, K12⟩ (fun fs hr => retOut X12 hx hret rfl (Or.inr (Or.inr (Or.inr (Or.inr ⟨rfl, rfl, rfl⟩)))) (hb hby d5_9) hr)
set_option maxRecDepth 65536 in
set_option maxHeartbeats 40000000 in
theorem rmGr (l : Launch) (Z : State) (a0 : Array Value) (hw : ∀ d ∈ tables_1, d.before a0 Z = true) (n0 : Nat) (h0 : Heap) (O : Old Z n0 h0) (a s1 s2 ac : Addr) (z : Int32) (hz : z = 0 ∨ z = 1) (A : Exa Z h0 a "com/example/grantwell/grantwell/catalog/Grant") (F_grantee : Fld Z h0 a "com/example/grantwell/grantwell/catalog/Grant" "grantee" "Ljava/lang/String;" .null) (F_grantor : Fld Z h0 a "com/example/grantwell/grantwell/catalog/Grant" "grantor" "Ljava/lang/String;" .null) (F_action : Fld Z h0 a "com/example/grantwell/grantwell/catalog/Grant" "action" "Lcom/example/grantwell/grantwell/catalog/Action;" .null) (F_grantOption : Fld Z h0 a "com/example/grantwell/grantwell/catalog/Grant" "grantOption" "Z" (.int (0 : Int32))) (na : n0 ≤ a) :
    ConHW l Z EL [] (⟨"com/example/grantwell/grantwell/catalog/Grant", "<init>", "(Ljava/lang/String;Ljava/lang/String;Lcom/example/grantwell/grantwell/catalog/Action;Z)V"⟩ : MethodName) prog_40_method_1_code 5 none ({ frames := 2, cells := 6, slots := 92, locals := 24 } : Room) #[(.ref a), (.ref s1), (.ref s2), (.ref ac), (.int z)] h0 (fun v h L => v = none ∧ Fr n0 L ∧ Keep h0 h [a] ∧ Exa Z h a "com/example/grantwell/grantwell/catalog/Grant" ∧ Fld Z h a "com/example/grantwell/grantwell/catalog/Grant" "grantee" "Ljava/lang/String;" (.ref s1)) := by
  refine conOfH (plainFor_of_name pn_com_example_grantwell_grantwell_catalog_Grant) ?_
  intro p e s m below mth cc s₁ X0 hx hby hml hown hnm hret hlk hZ e0 hS RR0
  have N0 := Fr.nil n0
  have hEL := elW hw
  have K0 := Keep.refl h0 ([a] : List Addr)
  refine Fin.came (castTop (t := _) (by first | (simp [entryFrame, mkF, argsToLocals, Value.category]; done) | rfl) (Steps.refl _) : Steps p.tables e below (s₁.setTop (entryFrame m #[(.ref a), (.ref s1), (.ref s2), (.ref ac), (.int z)] 5)) (s₁.setTop (mkF m 0 #[.val (.ref a), .val (.ref s1), .val (.ref s2), .val (.ref ac), .val (.int z)] []))) ?_
  show Fin _ p e below s _ _ _ s₁ (mkF m 0 #[.val (.ref a), .val (.ref s1), .val (.ref s2), .val (.ref ac), .val (.int z)] [])
  refine Fin.go (fun _ k => XS.aloadN X0.here hx rfl (hb hby d9_0) rfl rfl k) ?_
  obtain ⟨v11, T11, L11, X11, q11, st11⟩ := callCt X0 hx hZ (y := (⟨"java/lang/Record", "<init>", "()V"⟩ : MethodName)) rfl hown (hw _ w_61) (hw _ w_44) (hw _ w_46) (hw _ w_47) (by decide) (W := 0) (rmRec l Z a0 hw n0 h0 O a) e0 (by decide) (by decide) (by decide) (by decide) (g := (mkF m 1 #[.val (.ref a), .val (.ref s1), .val (.ref s2), .val (.ref ac), .val (.int z)] [(.ref a)])) rfl (by rw [hml]; rfl) (a := a) (argsL := []) (rest := []) (lenOf pd_ocV rfl) rfl (by show 2 * 0 + _ ≤ _; exact Nat.le_of_eq rfl) (hb hby d9_1)
  obtain ⟨rfl, e11, rfl⟩ := q11
  have N11 := Fr.app N0 (Fr.nil n0)
  refine Fin.go st11 ?_
  show Fin _ p e below s _ _ _ T11 (mkF m 4 #[.val (.ref a), .val (.ref s1), .val (.ref s2), .val (.ref ac), .val (.int z)] [])
  refine Fin.go (fun _ k => XS.aloadN X11.here hx rfl (hb hby d9_4) rfl rfl k) ?_
  show Fin _ p e below s _ _ _ T11 (mkF m 5 #[.val (.ref a), .val (.ref s1), .val (.ref s2), .val (.ref ac), .val (.int z)] [(.ref s1)])
  obtain ⟨a12, T12, h12, k12, X12, e12, E12, hS12, hj12, hZ12, hown12, RC12, lt12, st12⟩ := ldcOH X11 hx hZ hown (hw _ w_62) (strW hw) e11 hS (Nat.zero_le _) hEL RR0.1 (g := (mkF m 5 #[.val (.ref a), .val (.ref s1), .val (.ref s2), .val (.ref ac), .val (.int z)] [(.ref s1)])) rfl (hb hby d9_5) (n := 28) (by decide) (by decide) (by decide) (by decide)
  refine Fin.go st12 ?_
  have O12 := O.ext E12
  have K12 := K0.ext E12
  have RR12 := RR0.trans RC12
  show Fin _ p e below s _ _ _ T12 (mkF m 7 #[.val (.ref a), .val (.ref s1), .val (.ref s2), .val (.ref ac), .val (.int z)] [(.ref a12), (.ref s1)])
  obtain ⟨v13, T13, L13, X13, q13, st13⟩ := callSt X12 hx hZ12 (y := (⟨"java/util/Objects", "requireNonNull", "(Ljava/lang/Object;Ljava/lang/String;)Ljava/lang/Object;"⟩ : MethodName)) hown12 (hw _ w_63) (hw _ w_51) (hw _ w_52) (hw _ w_53) (by decide) (W := 0) (rmRNN l Z a0 hw n0 h12 O12 s1 a12) e12 (by decide) (by decide) (by decide) (by decide) (g := (mkF m 7 #[.val (.ref a), .val (.ref s1), .val (.ref s2), .val (.ref ac), .val (.int z)] [(.ref a12), (.ref s1)])) rfl (by rw [hml]; rfl) (argsL := [(.ref s1), (.ref a12)]) (rest := []) (lenOf pd_oLjava_lang_Object_Ljava_lang_String_cLjava_lang_Object_ rfl) rfl (by show 2 * 0 + _ ≤ _; exact Nat.le_of_eq rfl) (hb hby d9_7)
  obtain ⟨rfl, e13, rfl⟩ := q13
  have N13 := Fr.app N11 (Fr.nil n0)
  refine Fin.go st13 ?_
  show Fin _ p e below s _ _ _ T13 (mkF m 10 #[.val (.ref a), .val (.ref s1), .val (.ref s2), .val (.ref ac), .val (.int z)] [(.ref s1)])
  refine Fin.go (fun _ k => XT.pop X13.here hx rfl (hb hby d9_10) rfl rfl k) ?_
  refine Fin.go (fun _ k => XS.aloadN X13.here hx rfl (hb hby d9_11) rfl rfl k) ?_
  show Fin _ p e below s _ _ _ T13 (mkF m 12 #[.val (.ref a), .val (.ref s1), .val (.ref s2), .val (.ref ac), .val (.int z)] [(.ref s2)])
  obtain ⟨a14, T14, h14, k14, X14, e14, E14, hS14, hj14, hZ14, hown14, RC14, lt14, st14⟩ := ldcOH X13 hx hZ12 hown12 (hw _ w_64) (strW hw) e13 hS12 hj12 hEL RR12.1 (g := (mkF m 12 #[.val (.ref a), .val (.ref s1), .val (.ref s2), .val (.ref ac), .val (.int z)] [(.ref s2)])) rfl (hb hby d9_12) (n := 28) (by decide) (by decide) (by decide) (by decide)
  refine Fin.go st14 ?_
  have O14 := O12.ext E14
  have K14 := K12.ext E14
  have RR14 := RR12.trans RC14
  show Fin _ p e below s _ _ _ T14 (mkF m 14 #[.val (.ref a), .val (.ref s1), .val (.ref s2), .val (.ref ac), .val (.int z)] [(.ref a14), (.ref s2)])
  obtain ⟨v15, T15, L15, X15, q15, st15⟩ := callSt X14 hx hZ14 (y := (⟨"java/util/Objects", "requireNonNull", "(Ljava/lang/Object;Ljava/lang/String;)Ljava/lang/Object;"⟩ : MethodName)) hown14 (hw _ w_63) (hw _ w_51) (hw _ w_52) (hw _ w_53) (by decide) (W := 0) (rmRNN l Z a0 hw n0 h14 O14 s2 a14) e14 (by decide) (by decide) (by decide) (by decide) (g := (mkF m 14 #[.val (.ref a), .val (.ref s1), .val (.ref s2), .val (.ref ac), .val (.int z)] [(.ref a14), (.ref s2)])) rfl (by rw [hml]; rfl) (argsL := [(.ref s2), (.ref a14)]) (rest := []) (lenOf pd_oLjava_lang_Object_Ljava_lang_String_cLjava_lang_Object_ rfl) rfl (by show 2 * 0 + _ ≤ _; exact Nat.le_of_eq rfl) (hb hby d9_14)
  obtain ⟨rfl, e15, rfl⟩ := q15
  have N15 := Fr.app N13 (Fr.nil n0)
  refine Fin.go st15 ?_
  show Fin _ p e below s _ _ _ T15 (mkF m 17 #[.val (.ref a), .val (.ref s1), .val (.ref s2), .val (.ref ac), .val (.int z)] [(.ref s2)])
  refine Fin.go (fun _ k => XT.pop X15.here hx rfl (hb hby d9_17) rfl rfl k) ?_
  refine Fin.go (fun _ k => XS.aloadN X15.here hx rfl (hb hby d9_18) rfl rfl k) ?_
  show Fin _ p e below s _ _ _ T15 (mkF m 19 #[.val (.ref a), .val (.ref s1), .val (.ref s2), .val (.ref ac), .val (.int z)] [(.ref ac)])
  obtain ⟨a16, T16, h16, k16, X16, e16, E16, hS16, hj16, hZ16, hown16, RC16, lt16, st16⟩ := ldcOH X15 hx hZ14 hown14 (hw _ w_65) (strW hw) e15 hS14 hj14 hEL RR14.1 (g := (mkF m 19 #[.val (.ref a), .val (.ref s1), .val (.ref s2), .val (.ref ac), .val (.int z)] [(.ref ac)])) rfl (hb hby d9_19) (n := 24) (by decide) (by decide) (by decide) (by decide)
  refine Fin.go st16 ?_
  have O16 := O14.ext E16
  have K16 := K14.ext E16
  have RR16 := RR14.trans RC16
  show Fin _ p e below s _ _ _ T16 (mkF m 21 #[.val (.ref a), .val (.ref s1), .val (.ref s2), .val (.ref ac), .val (.int z)] [(.ref a16), (.ref ac)])
  obtain ⟨v17, T17, L17, X17, q17, st17⟩ := callSt X16 hx hZ16 (y := (⟨"java/util/Objects", "requireNonNull", "(Ljava/lang/Object;Ljava/lang/String;)Ljava/lang/Object;"⟩ : MethodName)) hown16 (hw _ w_63) (hw _ w_51) (hw _ w_52) (hw _ w_53) (by decide) (W := 0) (rmRNN l Z a0 hw n0 h16 O16 ac a16) e16 (by decide) (by decide) (by decide) (by decide) (g := (mkF m 21 #[.val (.ref a), .val (.ref s1), .val (.ref s2), .val (.ref ac), .val (.int z)] [(.ref a16), (.ref ac)])) rfl (by rw [hml]; rfl) (argsL := [(.ref ac), (.ref a16)]) (rest := []) (lenOf pd_oLjava_lang_Object_Ljava_lang_String_cLjava_lang_Object_ rfl) rfl (by show 2 * 0 + _ ≤ _; exact Nat.le_of_eq rfl) (hb hby d9_21)
  obtain ⟨rfl, e17, rfl⟩ := q17
  have N17 := Fr.app N15 (Fr.nil n0)
  refine Fin.go st17 ?_
  show Fin _ p e below s _ _ _ T17 (mkF m 24 #[.val (.ref a), .val (.ref s1), .val (.ref s2), .val (.ref ac), .val (.int z)] [(.ref ac)])
  refine Fin.go (fun _ k => XT.pop X17.here hx rfl (hb hby d9_24) rfl rfl k) ?_
  refine Fin.go (fun _ k => XS.aloadN X17.here hx rfl (hb hby d9_25) rfl rfl k) ?_
  refine Fin.go (fun _ k => XS.aloadN X17.here hx rfl (hb hby d9_26) rfl rfl k) ?_
  obtain ⟨T18, h18, X18, e18, W18, st18⟩ := putF X17 hx hZ16 hown16 (host := "") (Or.inl (hw _ w_66)) Via.refl e17 (((F_grantee.ext E12).ext E14).ext E16) (((A.ext E12).ext E14).ext E16) (Or.inr ⟨(hw _ w_67), rfl, hnm⟩) (hw _ w_29) (ty := (.object "java/lang/String")) (by decide) rfl rfl (g := (mkF m 27 #[.val (.ref a), .val (.ref s1), .val (.ref s2), .val (.ref ac), .val (.int z)] [(.ref s1), (.ref a)])) rfl rfl (hb hby d9_27)
  refine Fin.go st18 ?_
  have N18 := Fr.snoc X18 N17 na
  have O18 := O16.wr W18 na
  have K18 := K16.wr W18 (Or.inl (List.mem_of_getElem? (i := 0) rfl))
  have hk18 := Nat.le_trans hj16 (Keep.of_wr W18).1
  have RR18 := RR16.trans (CHr.wr W18 (Safe.exa hZ16.alike (((A.ext E12).ext E14).ext E16) (by decide) (by decide)) RR16.1)
  have F18_a_grantor := ((((F_grantor.ext E12).ext E14).ext E16).other W18 (Or.inr (slot_ne (Or.inr (hw _ w_69)) (Or.inr (hw _ w_67)) (by decide) (t := (.object "java/lang/String")) (t' := (.object "java/lang/String")) (by decide) (by decide))))
  have F18_a_action := ((((F_action.ext E12).ext E14).ext E16).other W18 (Or.inr (slot_ne (Or.inr (hw _ w_71)) (Or.inr (hw _ w_67)) (by decide) (t := (.object "com/example/grantwell/grantwell/catalog/Action")) (t' := (.object "java/lang/String")) (by decide) (by decide))))
  have F18_a_grantOption := ((((F_grantOption.ext E12).ext E14).ext E16).other W18 (Or.inr (slot_ne (Or.inr (hw _ w_73)) (Or.inr (hw _ w_67)) (by decide) (t := .boolean) (t' := (.object "java/lang/String")) (by decide) (by decide))))
  show Fin _ p e below s _ _ _ T18 (mkF m 30 #[.val (.ref a), .val (.ref s1), .val (.ref s2), .val (.ref ac), .val (.int z)] [])
  refine Fin.go (fun _ k => XS.aloadN X18.here hx rfl (hb hby d9_30) rfl rfl k) ?_
  refine Fin.go (fun _ k => XS.aloadN X18.here hx rfl (hb hby d9_31) rfl rfl k) ?_
  obtain ⟨T19, h19, X19, e19, W19, st19⟩ := putF X18 hx hZ16 hown16 (host := "") (Or.inl (hw _ w_68)) Via.refl e18 F18_a_grantor ((((A.ext E12).ext E14).ext E16).wr W18) (Or.inr ⟨(hw _ w_69), rfl, hnm⟩) (hw _ w_29) (ty := (.object "java/lang/String")) (by decide) rfl rfl (g := (mkF m 32 #[.val (.ref a), .val (.ref s1), .val (.ref s2), .val (.ref ac), .val (.int z)] [(.ref s2), (.ref a)])) rfl rfl (hb hby d9_32)
  refine Fin.go st19 ?_
  have N19 := Fr.snoc X19 N18 na
  have O19 := O18.wr W19 na
  have K19 := K18.wr W19 (Or.inl (List.mem_of_getElem? (i := 0) rfl))
  have hk19 := Nat.le_trans hk18 (Keep.of_wr W19).1
  have RR19 := RR18.trans (CHr.wr W19 (Safe.exa hZ16.alike ((((A.ext E12).ext E14).ext E16).wr W18) (by decide) (by decide)) RR18.1)
  have F19_a_grantee := (((((F_grantee.ext E12).ext E14).ext E16).same W18).other W19 (Or.inr (slot_ne (Or.inr (hw _ w_67)) (Or.inr (hw _ w_69)) (by decide) (t := (.object "java/lang/String")) (t' := (.object "java/lang/String")) (by decide) (by decide))))
  have F19_a_action := (F18_a_action.other W19 (Or.inr (slot_ne (Or.inr (hw _ w_71)) (Or.inr (hw _ w_69)) (by decide) (t := (.object "com/example/grantwell/grantwell/catalog/Action")) (t' := (.object "java/lang/String")) (by decide) (by decide))))
  have F19_a_grantOption := (F18_a_grantOption.other W19 (Or.inr (slot_ne (Or.inr (hw _ w_73)) (Or.inr (hw _ w_69)) (by decide) (t := .boolean) (t' := (.object "java/lang/String")) (by decide) (by decide))))
  show Fin _ p e below s _ _ _ T19 (mkF m 35 #[.val (.ref a), .val (.ref s1), .val (.ref s2), .val (.ref ac), .val (.int z)] [])
  refine Fin.go (fun _ k => XS.aloadN X19.here hx rfl (hb hby d9_35) rfl rfl k) ?_
  refine Fin.go (fun _ k => XS.aloadN X19.here hx rfl (hb hby d9_36) rfl rfl k) ?_
  obtain ⟨T20, h20, X20, e20, W20, st20⟩ := putF X19 hx hZ16 hown16 (host := "") (Or.inl (hw _ w_70)) Via.refl e19 F19_a_action (((((A.ext E12).ext E14).ext E16).wr W18).wr W19) (Or.inr ⟨(hw _ w_71), rfl, hnm⟩) (hw _ w_29) (ty := (.object "com/example/grantwell/grantwell/catalog/Action")) (by decide) rfl rfl (g := (mkF m 37 #[.val (.ref a), .val (.ref s1), .val (.ref s2), .val (.ref ac), .val (.int z)] [(.ref ac), (.ref a)])) rfl rfl (hb hby d9_37)
  refine Fin.go st20 ?_
  have N20 := Fr.snoc X20 N19 na
  have O20 := O19.wr W20 na
  have K20 := K19.wr W20 (Or.inl (List.mem_of_getElem? (i := 0) rfl))
  have hk20 := Nat.le_trans hk19 (Keep.of_wr W20).1
  have RR20 := RR19.trans (CHr.wr W20 (Safe.exa hZ16.alike (((((A.ext E12).ext E14).ext E16).wr W18).wr W19) (by decide) (by decide)) RR19.1)
  have F20_a_grantee := (F19_a_grantee.other W20 (Or.inr (slot_ne (Or.inr (hw _ w_67)) (Or.inr (hw _ w_71)) (by decide) (t := (.object "java/lang/String")) (t' := (.object "com/example/grantwell/grantwell/catalog/Action")) (by decide) (by decide))))
  have F20_a_grantor := ((F18_a_grantor.same W19).other W20 (Or.inr (slot_ne (Or.inr (hw _ w_69)) (Or.inr (hw _ w_71)) (by decide) (t := (.object "java/lang/String")) (t' := (.object "com/example/grantwell/grantwell/catalog/Action")) (by decide) (by decide))))
  have F20_a_grantOption := (F19_a_grantOption.other W20 (Or.inr (slot_ne (Or.inr (hw _ w_73)) (Or.inr (hw _ w_71)) (by decide) (t := .boolean) (t' := (.object "com/example/grantwell/grantwell/catalog/Action")) (by decide) (by decide))))
  show Fin _ p e below s _ _ _ T20 (mkF m 40 #[.val (.ref a), .val (.ref s1), .val (.ref s2), .val (.ref ac), .val (.int z)] [])
  refine Fin.go (fun _ k => XS.aloadN X20.here hx rfl (hb hby d9_40) rfl rfl k) ?_
  refine Fin.go (fun _ k => XS.iload X20.here hx rfl (hb hby d9_41) rfl k) ?_
  obtain ⟨T21, h21, X21, e21, W21, st21⟩ := putF X20 hx hZ16 hown16 (host := "") (Or.inl (hw _ w_72)) Via.refl e20 F20_a_grantOption ((((((A.ext E12).ext E14).ext E16).wr W18).wr W19).wr W20) (Or.inr ⟨(hw _ w_73), rfl, hnm⟩) (hw _ w_29) (ty := .boolean) (by decide) (by rcases hz with rfl | rfl <;> rfl) (by rcases hz with rfl | rfl <;> rfl) (g := (mkF m 43 #[.val (.ref a), .val (.ref s1), .val (.ref s2), .val (.ref ac), .val (.int z)] [(.int z), (.ref a)])) rfl rfl (hb hby d9_43)
  refine Fin.go st21 ?_
  have N21 := Fr.snoc X21 N20 na
  have O21 := O20.wr W21 na
  have K21 := K20.wr W21 (Or.inl (List.mem_of_getElem? (i := 0) rfl))
  have hk21 := Nat.le_trans hk20 (Keep.of_wr W21).1
  have RR21 := RR20.trans (CHr.wr W21 (Safe.exa hZ16.alike ((((((A.ext E12).ext E14).ext E16).wr W18).wr W19).wr W20) (by decide) (by decide)) RR20.1)
  have A21_a := (((((((A.ext E12).ext E14).ext E16).wr W18).wr W19).wr W20).wr W21)
  have F21_a_grantee := (F20_a_grantee.other W21 (Or.inr (slot_ne (Or.inr (hw _ w_67)) (Or.inr (hw _ w_73)) (by decide) (t := (.object "java/lang/String")) (t' := .boolean) (by decide) (by decide))))
  have F21_a_grantor := (F20_a_grantor.other W21 (Or.inr (slot_ne (Or.inr (hw _ w_69)) (Or.inr (hw _ w_73)) (by decide) (t := (.object "java/lang/String")) (t' := .boolean) (by decide) (by decide))))
  have F21_a_action := ((F19_a_action.same W20).other W21 (Or.inr (slot_ne (Or.inr (hw _ w_71)) (Or.inr (hw _ w_73)) (by decide) (t := (.object "com/example/grantwell/grantwell/catalog/Action")) (t' := .boolean) (by decide) (by decide))))
  show Fin _ p e below s _ _ _ T21 (mkF m 46 #[.val (.ref a), .val (.ref s1), .val (.ref s2), .val (.ref ac), .val (.int z)] [])
  exact Fin.leaveH X21 hS16 hk21 hZ16 hEL e21 RR21 hlk (v := none) (fun _ => rfl) (by decide) (by decide) ⟨rfl, N21, K21, A21_a, F21_a_grantee⟩ (fun fs hr => X21.returnOut hx hret (hb hby d9_46) hr)
set_option maxRecDepth 65536 in
set_option maxHeartbeats 40000000 in
theorem rmGe (l : Launch) (Z : State) (a0 : Array Value) (hw : ∀ d ∈ tables_1, d.before a0 Z = true) (n0 : Nat) (h0 : Heap) (O : Old Z n0 h0) (a s_ : Addr) (F : Fld Z h0 a "com/example/grantwell/grantwell/catalog/Grant" "grantee" "Ljava/lang/String;" (.ref s_)) :
    ConW FrameEnd l Z [] (⟨"com/example/grantwell/grantwell/catalog/Grant", "grantee", "()Ljava/lang/String;"⟩ : MethodName) prog_40_method_6_code 1 (some (.object "java/lang/String")) ({ frames := 0, cells := 0, slots := 0, locals := 0 } : Room) #[(.ref a)] h0 (Pure h0 (some (.ref s_))) := by
  refine conOf (plainFor_of_name pn_com_example_grantwell_grantwell_catalog_Grant) ?_
  intro p e s m below mth cc s₁ X0 hx hby hml hown hnm hret hlk hZ e0
  have N0 := Fr.nil n0
  refine Fin.came (castTop (t := _) (by first | (simp [entryFrame, mkF, argsToLocals, Value.category]; done) | rfl) (Steps.refl _) : Steps p.tables e below (s₁.setTop (entryFrame m #[(.ref a)] 1)) (s₁.setTop (mkF m 0 #[.val (.ref a)] []))) ?_
  show Fin _ p e below s _ _ _ s₁ (mkF m 0 #[.val (.ref a)] [])
  refine Fin.go (fun _ k => XS.aloadN X0.here hx rfl (hb hby d12_0) rfl rfl k) ?_
  obtain ⟨T11, X11, e11, st11⟩ := getF X0 hx hZ hown (host := "") (Or.inl (hw _ w_66)) Via.refl e0 F (g := (mkF m 1 #[.val (.ref a)] [(.ref a)])) rfl rfl (hb hby d12_1)
  refine Fin.go st11 ?_
  show Fin _ p e below s _ _ _ T11 (mkF m 4 #[.val (.ref a)] [(.ref s_)])
  exact Fin.leaveN X11 e11 hlk (v := some (.ref s_)) (fun h => by rw [hret] at h; cases h) (by decide) (by decide) ⟨rfl, rfl, rfl⟩ (fun fs hr => retOut X11 hx hret rfl (Or.inr (Or.inr (Or.inr (Or.inr ⟨rfl, rfl, rfl⟩)))) (hb hby d12_4) hr)
set_option maxRecDepth 65536 in
set_option maxHeartbeats 40000000 in
theorem rmPr (l : Launch) (Z : State) (a0 : Array Value) (hw : ∀ d ∈ tables_1, d.before a0 Z = true) (n0 : Nat) (h0 : Heap) (O : Old Z n0 h0) (a s1 b : Addr) (A : Exa Z h0 a "com/example/grantwell/grantwell/engine/Principal") (F_user : Fld Z h0 a "com/example/grantwell/grantwell/engine/Principal" "user" "Ljava/lang/String;" .null) (F_roles : Fld Z h0 a "com/example/grantwell/grantwell/engine/Principal" "roles" "Ljava/util/Set;" .null) (F_numbered : Fld Z h0 a "com/example/grantwell/grantwell/engine/Principal" "numbered" "[J" .null) (na : n0 ≤ a) :
    ConW FrameEnd l Z [] (⟨"com/example/grantwell/grantwell/engine/Principal", "<init>", "(Ljava/lang/String;Ljava/util/Set;[J)V"⟩ : MethodName) prog_78_method_1_code 4 none ({ frames := 1, cells := 0, slots := 0, locals := 12 } : Room) #[(.ref a), (.ref s1), .null, (.ref b)] h0 (fun v h L => v = none ∧ Fr n0 L ∧ Keep h0 h [a] ∧ Exa Z h a "com/example/grantwell/grantwell/engine/Principal" ∧ Fld Z h a "com/example/grantwell/grantwell/engine/Principal" "user" "Ljava/lang/String;" (.ref s1) ∧ Fld Z h a "com/example/grantwell/grantwell/engine/Principal" "numbered" "[J" (.ref b)) := by
  refine conOf (plainFor_of_name pn_com_example_grantwell_grantwell_engine_Principal) ?_
  intro p e s m below mth cc s₁ X0 hx hby hml hown hnm hret hlk hZ e0
  have N0 := Fr.nil n0
  have K0 := Keep.refl h0 ([a] : List Addr)
  refine Fin.came (castTop (t := _) (by first | (simp [entryFrame, mkF, argsToLocals, Value.category]; done) | rfl) (Steps.refl _) : Steps p.tables e below (s₁.setTop (entryFrame m #[(.ref a), (.ref s1), .null, (.ref b)] 4)) (s₁.setTop (mkF m 0 #[.val (.ref a), .val (.ref s1), .val .null, .val (.ref b)] []))) ?_
  show Fin _ p e below s _ _ _ s₁ (mkF m 0 #[.val (.ref a), .val (.ref s1), .val .null, .val (.ref b)] [])
  refine Fin.go (fun _ k => XS.aloadN X0.here hx rfl (hb hby d10_0) rfl rfl k) ?_
  obtain ⟨T11, X11, e11, st11⟩ := initO X0 hx hZ hown (hw _ w_80) (hw _ w_18) (hw _ w_19) e0 (g := (mkF m 1 #[.val (.ref a), .val (.ref s1), .val .null, .val (.ref b)] [(.ref a)])) rfl (by rw [hml]; rfl) rfl (hb hby d10_1) (by decide) (W := 0) (by show 2 * 0 + _ ≤ _; exact Nat.le_of_eq rfl) (by decide)
  refine Fin.go st11 ?_
  show Fin _ p e below s _ _ _ T11 (mkF m 4 #[.val (.ref a), .val (.ref s1), .val .null, .val (.ref b)] [])
  refine Fin.go (fun _ k => XS.aloadN X11.here hx rfl (hb hby d10_4) rfl rfl k) ?_
  refine Fin.go (fun _ k => XS.aloadN X11.here hx rfl (hb hby d10_5) rfl rfl k) ?_
  obtain ⟨T12, h12, X12, e12, W12, st12⟩ := putF X11 hx hZ hown (host := "") (Or.inl (hw _ w_81)) Via.refl e11 F_user A (Or.inr ⟨(hw _ w_82), rfl, hnm⟩) (hw _ w_75) (ty := (.object "java/lang/String")) (by decide) rfl rfl (g := (mkF m 6 #[.val (.ref a), .val (.ref s1), .val .null, .val (.ref b)] [(.ref s1), (.ref a)])) rfl rfl (hb hby d10_6)
  refine Fin.go st12 ?_
  have N12 := Fr.snoc X12 N0 na
  have O12 := O.wr W12 na
  have K12 := K0.wr W12 (Or.inl (List.mem_of_getElem? (i := 0) rfl))
  have F12_a_roles := (F_roles.other W12 (Or.inr (slot_ne (Or.inr (hw _ w_84)) (Or.inr (hw _ w_82)) (by decide) (t := (.object "java/util/Set")) (t' := (.object "java/lang/String")) (by decide) (by decide))))
  have F12_a_numbered := (F_numbered.other W12 (Or.inr (slot_ne (Or.inr (hw _ w_86)) (Or.inr (hw _ w_82)) (by decide) (t := (.array .long)) (t' := (.object "java/lang/String")) (by decide) (by decide))))
  show Fin _ p e below s _ _ _ T12 (mkF m 9 #[.val (.ref a), .val (.ref s1), .val .null, .val (.ref b)] [])
  refine Fin.go (fun _ k => XS.aloadN X12.here hx rfl (hb hby d10_9) rfl rfl k) ?_
  refine Fin.go (fun _ k => XS.aloadN X12.here hx rfl (hb hby d10_10) rfl rfl k) ?_
  obtain ⟨T13, h13, X13, e13, W13, st13⟩ := putF X12 hx hZ hown (host := "") (Or.inl (hw _ w_83)) Via.refl e12 F12_a_roles (A.wr W12) (Or.inr ⟨(hw _ w_84), rfl, hnm⟩) (hw _ w_75) (ty := (.object "java/util/Set")) (by decide) rfl rfl (g := (mkF m 11 #[.val (.ref a), .val (.ref s1), .val .null, .val (.ref b)] [.null, (.ref a)])) rfl rfl (hb hby d10_11)
  refine Fin.go st13 ?_
  have N13 := Fr.snoc X13 N12 na
  have O13 := O12.wr W13 na
  have K13 := K12.wr W13 (Or.inl (List.mem_of_getElem? (i := 0) rfl))
  have F13_a_user := ((F_user.same W12).other W13 (Or.inr (slot_ne (Or.inr (hw _ w_82)) (Or.inr (hw _ w_84)) (by decide) (t := (.object "java/lang/String")) (t' := (.object "java/util/Set")) (by decide) (by decide))))
  have F13_a_numbered := (F12_a_numbered.other W13 (Or.inr (slot_ne (Or.inr (hw _ w_86)) (Or.inr (hw _ w_84)) (by decide) (t := (.array .long)) (t' := (.object "java/util/Set")) (by decide) (by decide))))
  show Fin _ p e below s _ _ _ T13 (mkF m 14 #[.val (.ref a), .val (.ref s1), .val .null, .val (.ref b)] [])
  refine Fin.go (fun _ k => XS.aloadN X13.here hx rfl (hb hby d10_14) rfl rfl k) ?_
  refine Fin.go (fun _ k => XS.aloadN X13.here hx rfl (hb hby d10_15) rfl rfl k) ?_
  obtain ⟨T14, h14, X14, e14, W14, st14⟩ := putF X13 hx hZ hown (host := "") (Or.inl (hw _ w_85)) Via.refl e13 F13_a_numbered ((A.wr W12).wr W13) (Or.inr ⟨(hw _ w_86), rfl, hnm⟩) (hw _ w_75) (ty := (.array .long)) (by decide) rfl rfl (g := (mkF m 16 #[.val (.ref a), .val (.ref s1), .val .null, .val (.ref b)] [(.ref b), (.ref a)])) rfl rfl (hb hby d10_16)
  refine Fin.go st14 ?_
  have N14 := Fr.snoc X14 N13 na
  have O14 := O13.wr W14 na
  have K14 := K13.wr W14 (Or.inl (List.mem_of_getElem? (i := 0) rfl))
  have F14_a_user := (F13_a_user.other W14 (Or.inr (slot_ne (Or.inr (hw _ w_82)) (Or.inr (hw _ w_86)) (by decide) (t := (.object "java/lang/String")) (t' := (.array .long)) (by decide) (by decide))))
  have F14_a_roles := ((F12_a_roles.same W13).other W14 (Or.inr (slot_ne (Or.inr (hw _ w_84)) (Or.inr (hw _ w_86)) (by decide) (t := (.object "java/util/Set")) (t' := (.array .long)) (by decide) (by decide))))
  show Fin _ p e below s _ _ _ T14 (mkF m 19 #[.val (.ref a), .val (.ref s1), .val .null, .val (.ref b)] [])
  exact Fin.leaveN X14 e14 hlk (v := none) (fun _ => rfl) (by decide) (by decide) ⟨rfl, N14, K14, (((A.wr W12).wr W13).wr W14), F14_a_user, (F13_a_numbered.same W14)⟩ (fun fs hr => X14.returnOut hx hret (hb hby d10_19) hr)
set_option maxRecDepth 65536 in
set_option maxHeartbeats 40000000 in
theorem rmCnt0 (l : Launch) (Z : State) (a0 : Array Value) (hw : ∀ d ∈ tables_1, d.before a0 Z = true) (n0 : Nat) (h0 : Heap) (O : Old Z n0 h0) (p_ gr nm us b : Addr) (kb : ClassId) (g : Int32) (ds cs : List Int32) (B1 B2 : Nat)  (ck : Int32) (S_cs : Sta Z Z.heap "java/lang/String" "COMPACT_STRINGS" "Z" (.int ck)) (hcs : ¬ ck = 0) (nab : nm ≠ us) (hd : ds.length ≤ 2) (hc : cs.length ≤ 2) (AG : Exa Z h0 gr "com/example/grantwell/grantwell/catalog/Grant") (FG : Fld Z h0 gr "com/example/grantwell/grantwell/catalog/Grant" "grantee" "Ljava/lang/String;" (.ref nm)) (FUs : Fld Z h0 p_ "com/example/grantwell/grantwell/engine/Principal" "user" "Ljava/lang/String;" (.ref us)) (FNb : Fld Z h0 p_ "com/example/grantwell/grantwell/engine/Principal" "numbered" "[J" (.ref b)) (FN : StrIs Z h0 nm (ds) B1) (FU : StrIs Z h0 us (cs) B2) (VB : Arv Z h0 b kb .long (0 : Int32) [] (.long (0 : Int64))) :
    ConW FrameEnd l Z [] (⟨"com/example/grantwell/grantwell/engine/Principal", "counts", "(ILcom/example/grantwell/grantwell/catalog/Grant;)Z"⟩ : MethodName) prog_78_method_4_code 5 (some .boolean) ({ frames := 2, cells := 0, slots := 0, locals := 28 } : Room) #[(.ref p_), (.int g), (.ref gr)] h0 (Pure h0 (some (.int (cnt0 g (eqI ds cs) )))) := by
  refine conOf (plainFor_of_name pn_com_example_grantwell_grantwell_engine_Principal) ?_
  intro p e s m below mth cc s₁ X0 hx hby hml hown hnm hret hlk hZ e0
  have N0 := Fr.nil n0
  refine Fin.came (castTop (t := _) (by first | (simp [entryFrame, mkF, argsToLocals, Value.category]; done) | rfl) (Steps.refl _) : Steps p.tables e below (s₁.setTop (entryFrame m #[(.ref p_), (.int g), (.ref gr)] 5)) (s₁.setTop (mkF m 0 #[.val (.ref p_), .val (.int g), .val (.ref gr), .unset, .unset] []))) ?_
  show Fin _ p e below s _ _ _ s₁ (mkF m 0 #[.val (.ref p_), .val (.int g), .val (.ref gr), .unset, .unset] [])
  refine Fin.go (fun _ k => XS.iloadN X0.here hx rfl (hb hby d11_0) rfl k) ?_
  refine Fin.go (fun _ k => XS.iconst X0.here hx rfl (hb hby d11_1) k) ?_
  by_cases c2 : g = (-1 : Int32)
  · refine Fin.go (fun _ k => XS.icmpNo X0.here hx rfl (hb hby d11_2) rfl (XT.ii_ne_f c2) k) ?_
    show Fin _ p e below s _ _ _ s₁ (mkF m 5 #[.val (.ref p_), .val (.int g), .val (.ref gr), .unset, .unset] [])
    refine Fin.go (fun _ k => XS.aloadN X0.here hx rfl (hb hby d11_5) rfl rfl k) ?_
    obtain ⟨v11, T11, L11, X11, q11, st11⟩ := callVt X0 hx hZ (y := (⟨"com/example/grantwell/grantwell/catalog/Grant", "grantee", "()Ljava/lang/String;"⟩ : MethodName)) hown (hw _ w_92) (hw _ w_93) (hw _ w_95) (hw _ w_94) (hw _ w_30) (hw _ w_96) (by decide) (W := 0) (rmGe l Z a0 hw n0 h0 O gr nm FG) e0 AG (by decide) (by decide) (by decide) (by decide) (g := (mkF m 6 #[.val (.ref p_), .val (.int g), .val (.ref gr), .unset, .unset] [(.ref gr)])) rfl (by rw [hml]; rfl) (argsL := []) (rest := []) (lenOf pd_ocLjava_lang_String_ rfl) rfl (by show 2 * 0 + _ ≤ _; exact Nat.le_of_eq rfl) (hb hby d11_6)
    obtain ⟨rfl, e11, rfl⟩ := q11
    have N11 := Fr.app N0 (Fr.nil n0)
    refine Fin.go st11 ?_
    show Fin _ p e below s _ _ _ T11 (mkF m 9 #[.val (.ref p_), .val (.int g), .val (.ref gr), .unset, .unset] [(.ref nm)])
    refine Fin.go (fun _ k => XS.aloadN X11.here hx rfl (hb hby d11_9) rfl rfl k) ?_
    obtain ⟨T12, X12, e12, st12⟩ := getF X11 hx hZ hown (host := "") (Or.inl (hw _ w_81)) Via.refl e11 FUs (g := (mkF m 10 #[.val (.ref p_), .val (.int g), .val (.ref gr), .unset, .unset] [(.ref p_), (.ref nm)])) rfl rfl (hb hby d11_10)
    refine Fin.go st12 ?_
    show Fin _ p e below s _ _ _ T12 (mkF m 13 #[.val (.ref p_), .val (.int g), .val (.ref gr), .unset, .unset] [(.ref us), (.ref nm)])
    obtain ⟨v13, T13, L13, X13, q13, st13⟩ := callVt X12 hx hZ (y := (⟨"java/lang/String", "equals", "(Ljava/lang/Object;)Z"⟩ : MethodName)) hown (hw _ w_97) (hw _ w_98) (hw _ w_100) (hw _ w_99) (hw _ w_8) (hw _ w_101) (by decide) (W := 0) (rmEqS l Z a0 hw n0 h0 O nm us ds cs B1 B2 ck S_cs hcs nab hd hc FN FU) e12 FN.exa (by decide) (by decide) (by decide) (by decide) (g := (mkF m 13 #[.val (.ref p_), .val (.int g), .val (.ref gr), .unset, .unset] [(.ref us), (.ref nm)])) rfl (by rw [hml]; rfl) (argsL := [(.ref us)]) (rest := []) (lenOf pd_oLjava_lang_Object_cZ rfl) rfl (by show 2 * 0 + _ ≤ _; exact Nat.le_of_eq rfl) (hb hby d11_13)
    obtain ⟨rfl, e13, rfl⟩ := q13
    have N13 := Fr.app N11 (Fr.nil n0)
    refine Fin.go st13 ?_
    show Fin _ p e below s _ _ _ T13 (mkF m 16 #[.val (.ref p_), .val (.int g), .val (.ref gr), .unset, .unset] [(.int (eqI ds cs))])
    refine Fin.go (fun _ k => XS.istoreN X13.here hx rfl (hb hby d11_16) rfl (l' := #[.val (.ref p_), .val (.int g), .val (.ref gr), .val (.int (eqI ds cs)), .unset]) rfl k) ?_
    refine Fin.go (fun _ k => XS.goto X13.here hx rfl (pc0 := 17) (pc' := 58) rfl (hb hby d11_17) (by decide) (by decide) k) ?_
    refine Fin.go (fun _ k => XS.iloadN X13.here hx rfl (hb hby d11_58) rfl k) ?_
    exact Fin.leaveN X13 e13 hlk (v := some (.int (nar .boolean (eqI ds cs)))) (fun h => by rw [hret] at h; cases h) (by decide) (by decide) ⟨by rw [eqI01]; simp [cnt0, c2], rfl, rfl⟩ (fun fs hr => retN X13 hx (t := .boolean) hret (by simp) (hb hby d11_59) hr)
  · refine Fin.go (fun _ k => XS.icmpYes X0.here hx rfl (pc0 := 2) (pc' := 20) rfl (hb hby d11_2) rfl (XT.ii_ne_t c2) (by decide) (by decide) k) ?_
    show Fin _ p e below s _ _ _ s₁ (mkF m 20 #[.val (.ref p_), .val (.int g), .val (.ref gr), .unset, .unset] [])
    refine Fin.go (fun _ k => XS.iloadN X0.here hx rfl (hb hby d11_20) rfl k) ?_
    refine Fin.go (fun _ k => XS.bipush X0.here hx rfl (hb hby d11_21) k) ?_
    refine Fin.go (fun _ k => XT.iushr X0.here hx rfl (hb hby d11_23) rfl k) ?_
    refine Fin.go (fun _ k => XS.istore X0.here hx rfl (hb hby d11_24) rfl (l' := #[.val (.ref p_), .val (.int g), .val (.ref gr), .unset, .val (.int (XT.ushr g (6 : Int32)))]) rfl k) ?_
    show Fin _ p e below s _ _ _ s₁ (mkF m 26 #[.val (.ref p_), .val (.int g), .val (.ref gr), .unset, .val (.int (XT.ushr g (6 : Int32)))] [])
    refine Fin.go (fun _ k => XS.iload X0.here hx rfl (hb hby d11_26) rfl k) ?_
    refine Fin.go (fun _ k => XS.aloadN X0.here hx rfl (hb hby d11_28) rfl rfl k) ?_
    obtain ⟨T14, X14, e14, st14⟩ := getF X0 hx hZ hown (host := "") (Or.inl (hw _ w_85)) Via.refl e0 FNb (g := (mkF m 29 #[.val (.ref p_), .val (.int g), .val (.ref gr), .unset, .val (.int (XT.ushr g (6 : Int32)))] [(.ref p_), (.int (XT.ushr g (6 : Int32)))])) rfl rfl (hb hby d11_29)
    refine Fin.go st14 ?_
    show Fin _ p e below s _ _ _ T14 (mkF m 32 #[.val (.ref p_), .val (.int g), .val (.ref gr), .unset, .val (.int (XT.ushr g (6 : Int32)))] [(.ref b), (.int (XT.ushr g (6 : Int32)))])
    obtain ⟨c15, B15, q15, S15, M15, H15, G15⟩ := id VB
    refine Fin.go (fun _ k => X14.arraylength hx (by rw [e14]; exact B15.1) (State.isArrayOf_alike hZ.alike B15.2.1) (g := (mkF m 32 #[.val (.ref p_), .val (.int g), .val (.ref gr), .unset, .val (.int (XT.ushr g (6 : Int32)))] [(.ref b), (.int (XT.ushr g (6 : Int32)))])) rfl rfl (hb hby d11_32) _ k) ?_
    rw [len_of S15 M15]
    show Fin _ p e below s _ _ _ T14 (mkF m 33 #[.val (.ref p_), .val (.int g), .val (.ref gr), .unset, .val (.int (XT.ushr g (6 : Int32)))] [(.int (0 : Int32)), (.int (XT.ushr g (6 : Int32)))])
    refine Fin.go (fun _ k => XS.icmpYes X14.here hx rfl (pc0 := 33) (pc' := 56) rfl (hb hby d11_33) rfl (XT.ii_ge_t (ush6_nn _)) (by decide) (by decide) k) ?_
    show Fin _ p e below s _ _ _ T14 (mkF m 56 #[.val (.ref p_), .val (.int g), .val (.ref gr), .unset, .val (.int (XT.ushr g (6 : Int32)))] [])
    refine Fin.go (fun _ k => XS.iconst X14.here hx rfl (hb hby d11_56) k) ?_
    refine Fin.go (fun _ k => XS.istoreN X14.here hx rfl (hb hby d11_57) rfl (l' := #[.val (.ref p_), .val (.int g), .val (.ref gr), .val (.int (0 : Int32)), .val (.int (XT.ushr g (6 : Int32)))]) rfl k) ?_
    refine Fin.go (fun _ k => XS.iloadN X14.here hx rfl (hb hby d11_58) rfl k) ?_
    exact Fin.leaveN X14 e14 hlk (v := some (.int (nar .boolean (0 : Int32)))) (fun h => by rw [hret] at h; cases h) (by decide) (by decide) ⟨by simp [cnt0, tst, nar, c2, ush6_nn], rfl, rfl⟩ (fun fs hr => retN X14 hx (t := .boolean) hret (by simp) (hb hby d11_59) hr)
set_option maxRecDepth 65536 in
set_option maxHeartbeats 40000000 in
theorem rmCnt1 (l : Launch) (Z : State) (a0 : Array Value) (hw : ∀ d ∈ tables_1, d.before a0 Z = true) (n0 : Nat) (h0 : Heap) (O : Old Z n0 h0) (p_ gr nm us b : Addr) (kb : ClassId) (g : Int32) (ds cs : List Int32) (B1 B2 : Nat) (w0 : Int64) (ck : Int32) (S_cs : Sta Z Z.heap "java/lang/String" "COMPACT_STRINGS" "Z" (.int ck)) (hcs : ¬ ck = 0) (nab : nm ≠ us) (hd : ds.length ≤ 2) (hc : cs.length ≤ 2) (AG : Exa Z h0 gr "com/example/grantwell/grantwell/catalog/Grant") (FG : Fld Z h0 gr "com/example/grantwell/grantwell/catalog/Grant" "grantee" "Ljava/lang/String;" (.ref nm)) (FUs : Fld Z h0 p_ "com/example/grantwell/grantwell/engine/Principal" "user" "Ljava/lang/String;" (.ref us)) (FNb : Fld Z h0 p_ "com/example/grantwell/grantwell/engine/Principal" "numbered" "[J" (.ref b)) (FN : StrIs Z h0 nm (ds) B1) (FU : StrIs Z h0 us (cs) B2) (VB : Arv Z h0 b kb .long (1 : Int32) [(.long w0)] (.long (0 : Int64))) :
    ConW FrameEnd l Z [] (⟨"com/example/grantwell/grantwell/engine/Principal", "counts", "(ILcom/example/grantwell/grantwell/catalog/Grant;)Z"⟩ : MethodName) prog_78_method_4_code 5 (some .boolean) ({ frames := 2, cells := 0, slots := 0, locals := 28 } : Room) #[(.ref p_), (.int g), (.ref gr)] h0 (Pure h0 (some (.int (cnt1 g (eqI ds cs) w0)))) := by
  refine conOf (plainFor_of_name pn_com_example_grantwell_grantwell_engine_Principal) ?_
  intro p e s m below mth cc s₁ X0 hx hby hml hown hnm hret hlk hZ e0
  have N0 := Fr.nil n0
  refine Fin.came (castTop (t := _) (by first | (simp [entryFrame, mkF, argsToLocals, Value.category]; done) | rfl) (Steps.refl _) : Steps p.tables e below (s₁.setTop (entryFrame m #[(.ref p_), (.int g), (.ref gr)] 5)) (s₁.setTop (mkF m 0 #[.val (.ref p_), .val (.int g), .val (.ref gr), .unset, .unset] []))) ?_
  show Fin _ p e below s _ _ _ s₁ (mkF m 0 #[.val (.ref p_), .val (.int g), .val (.ref gr), .unset, .unset] [])
  refine Fin.go (fun _ k => XS.iloadN X0.here hx rfl (hb hby d11_0) rfl k) ?_
  refine Fin.go (fun _ k => XS.iconst X0.here hx rfl (hb hby d11_1) k) ?_
  by_cases c2 : g = (-1 : Int32)
  · refine Fin.go (fun _ k => XS.icmpNo X0.here hx rfl (hb hby d11_2) rfl (XT.ii_ne_f c2) k) ?_
    show Fin _ p e below s _ _ _ s₁ (mkF m 5 #[.val (.ref p_), .val (.int g), .val (.ref gr), .unset, .unset] [])
    refine Fin.go (fun _ k => XS.aloadN X0.here hx rfl (hb hby d11_5) rfl rfl k) ?_
    obtain ⟨v11, T11, L11, X11, q11, st11⟩ := callVt X0 hx hZ (y := (⟨"com/example/grantwell/grantwell/catalog/Grant", "grantee", "()Ljava/lang/String;"⟩ : MethodName)) hown (hw _ w_92) (hw _ w_93) (hw _ w_95) (hw _ w_94) (hw _ w_30) (hw _ w_96) (by decide) (W := 0) (rmGe l Z a0 hw n0 h0 O gr nm FG) e0 AG (by decide) (by decide) (by decide) (by decide) (g := (mkF m 6 #[.val (.ref p_), .val (.int g), .val (.ref gr), .unset, .unset] [(.ref gr)])) rfl (by rw [hml]; rfl) (argsL := []) (rest := []) (lenOf pd_ocLjava_lang_String_ rfl) rfl (by show 2 * 0 + _ ≤ _; exact Nat.le_of_eq rfl) (hb hby d11_6)
    obtain ⟨rfl, e11, rfl⟩ := q11
    have N11 := Fr.app N0 (Fr.nil n0)
    refine Fin.go st11 ?_
    show Fin _ p e below s _ _ _ T11 (mkF m 9 #[.val (.ref p_), .val (.int g), .val (.ref gr), .unset, .unset] [(.ref nm)])
    refine Fin.go (fun _ k => XS.aloadN X11.here hx rfl (hb hby d11_9) rfl rfl k) ?_
    obtain ⟨T12, X12, e12, st12⟩ := getF X11 hx hZ hown (host := "") (Or.inl (hw _ w_81)) Via.refl e11 FUs (g := (mkF m 10 #[.val (.ref p_), .val (.int g), .val (.ref gr), .unset, .unset] [(.ref p_), (.ref nm)])) rfl rfl (hb hby d11_10)
    refine Fin.go st12 ?_
    show Fin _ p e below s _ _ _ T12 (mkF m 13 #[.val (.ref p_), .val (.int g), .val (.ref gr), .unset, .unset] [(.ref us), (.ref nm)])
    obtain ⟨v13, T13, L13, X13, q13, st13⟩ := callVt X12 hx hZ (y := (⟨"java/lang/String", "equals", "(Ljava/lang/Object;)Z"⟩ : MethodName)) hown (hw _ w_97) (hw _ w_98) (hw _ w_100) (hw _ w_99) (hw _ w_8) (hw _ w_101) (by decide) (W := 0) (rmEqS l Z a0 hw n0 h0 O nm us ds cs B1 B2 ck S_cs hcs nab hd hc FN FU) e12 FN.exa (by decide) (by decide) (by decide) (by decide) (g := (mkF m 13 #[.val (.ref p_), .val (.int g), .val (.ref gr), .unset, .unset] [(.ref us), (.ref nm)])) rfl (by rw [hml]; rfl) (argsL := [(.ref us)]) (rest := []) (lenOf pd_oLjava_lang_Object_cZ rfl) rfl (by show 2 * 0 + _ ≤ _; exact Nat.le_of_eq rfl) (hb hby d11_13)
    obtain ⟨rfl, e13, rfl⟩ := q13
    have N13 := Fr.app N11 (Fr.nil n0)
    refine Fin.go st13 ?_
    show Fin _ p e below s _ _ _ T13 (mkF m 16 #[.val (.ref p_), .val (.int g), .val (.ref gr), .unset, .unset] [(.int (eqI ds cs))])
    refine Fin.go (fun _ k => XS.istoreN X13.here hx rfl (hb hby d11_16) rfl (l' := #[.val (.ref p_), .val (.int g), .val (.ref gr), .val (.int (eqI ds cs)), .unset]) rfl k) ?_
    refine Fin.go (fun _ k => XS.goto X13.here hx rfl (pc0 := 17) (pc' := 58) rfl (hb hby d11_17) (by decide) (by decide) k) ?_
    refine Fin.go (fun _ k => XS.iloadN X13.here hx rfl (hb hby d11_58) rfl k) ?_
    exact Fin.leaveN X13 e13 hlk (v := some (.int (nar .boolean (eqI ds cs)))) (fun h => by rw [hret] at h; cases h) (by decide) (by decide) ⟨by rw [eqI01]; simp [cnt1, c2], rfl, rfl⟩ (fun fs hr => retN X13 hx (t := .boolean) hret (by simp) (hb hby d11_59) hr)
  · refine Fin.go (fun _ k => XS.icmpYes X0.here hx rfl (pc0 := 2) (pc' := 20) rfl (hb hby d11_2) rfl (XT.ii_ne_t c2) (by decide) (by decide) k) ?_
    show Fin _ p e below s _ _ _ s₁ (mkF m 20 #[.val (.ref p_), .val (.int g), .val (.ref gr), .unset, .unset] [])
    refine Fin.go (fun _ k => XS.iloadN X0.here hx rfl (hb hby d11_20) rfl k) ?_
    refine Fin.go (fun _ k => XS.bipush X0.here hx rfl (hb hby d11_21) k) ?_
    refine Fin.go (fun _ k => XT.iushr X0.here hx rfl (hb hby d11_23) rfl k) ?_
    refine Fin.go (fun _ k => XS.istore X0.here hx rfl (hb hby d11_24) rfl (l' := #[.val (.ref p_), .val (.int g), .val (.ref gr), .unset, .val (.int (XT.ushr g (6 : Int32)))]) rfl k) ?_
    show Fin _ p e below s _ _ _ s₁ (mkF m 26 #[.val (.ref p_), .val (.int g), .val (.ref gr), .unset, .val (.int (XT.ushr g (6 : Int32)))] [])
    refine Fin.go (fun _ k => XS.iload X0.here hx rfl (hb hby d11_26) rfl k) ?_
    refine Fin.go (fun _ k => XS.aloadN X0.here hx rfl (hb hby d11_28) rfl rfl k) ?_
    obtain ⟨T14, X14, e14, st14⟩ := getF X0 hx hZ hown (host := "") (Or.inl (hw _ w_85)) Via.refl e0 FNb (g := (mkF m 29 #[.val (.ref p_), .val (.int g), .val (.ref gr), .unset, .val (.int (XT.ushr g (6 : Int32)))] [(.ref p_), (.int (XT.ushr g (6 : Int32)))])) rfl rfl (hb hby d11_29)
    refine Fin.go st14 ?_
    show Fin _ p e below s _ _ _ T14 (mkF m 32 #[.val (.ref p_), .val (.int g), .val (.ref gr), .unset, .val (.int (XT.ushr g (6 : Int32)))] [(.ref b), (.int (XT.ushr g (6 : Int32)))])
    obtain ⟨c15, B15, q15, S15, M15, H15, G15⟩ := id VB
    refine Fin.go (fun _ k => X14.arraylength hx (by rw [e14]; exact B15.1) (State.isArrayOf_alike hZ.alike B15.2.1) (g := (mkF m 32 #[.val (.ref p_), .val (.int g), .val (.ref gr), .unset, .val (.int (XT.ushr g (6 : Int32)))] [(.ref b), (.int (XT.ushr g (6 : Int32)))])) rfl rfl (hb hby d11_32) _ k) ?_
    rw [len_of S15 M15]
    show Fin _ p e below s _ _ _ T14 (mkF m 33 #[.val (.ref p_), .val (.int g), .val (.ref gr), .unset, .val (.int (XT.ushr g (6 : Int32)))] [(.int (1 : Int32)), (.int (XT.ushr g (6 : Int32)))])
    by_cases c33 : (XT.ushr g (6 : Int32)) < (1 : Int32)
    · refine Fin.go (fun _ k => XS.icmpNo X14.here hx rfl (hb hby d11_33) rfl (XT.ii_ge_f c33) k) ?_
      show Fin _ p e below s _ _ _ T14 (mkF m 36 #[.val (.ref p_), .val (.int g), .val (.ref gr), .unset, .val (.int (XT.ushr g (6 : Int32)))] [])
      rw [ush6_1 c33]
      show Fin _ p e below s _ _ _ T14 (mkF m 36 #[.val (.ref p_), .val (.int g), .val (.ref gr), .unset, .val (.int (0 : Int32))] [])
      refine Fin.go (fun _ k => XS.aloadN X14.here hx rfl (hb hby d11_36) rfl rfl k) ?_
      obtain ⟨T16, X16, e16, st16⟩ := getF X14 hx hZ hown (host := "") (Or.inl (hw _ w_85)) Via.refl e14 FNb (g := (mkF m 37 #[.val (.ref p_), .val (.int g), .val (.ref gr), .unset, .val (.int (0 : Int32))] [(.ref p_)])) rfl rfl (hb hby d11_37)
      refine Fin.go st16 ?_
      show Fin _ p e below s _ _ _ T16 (mkF m 40 #[.val (.ref p_), .val (.int g), .val (.ref gr), .unset, .val (.int (0 : Int32))] [(.ref b)])
      refine Fin.go (fun _ k => XS.iload X16.here hx rfl (hb hby d11_40) rfl k) ?_
      obtain ⟨c17, B17, q17, S17, M17, H17, G17⟩ := id VB
      have i17 := inb_of S17 ⟨(by decide : ¬ ((0 : Int32) < (0 : Int32))), (by decide : (0 : Int32) < (1 : Int32))⟩
      refine Fin.go (fun _ k => X16.laload hx (j := (0 : Int32)) (v := (.long w0)) (by rw [e16]; exact B17.1) (State.isArrayOf_alike hZ.alike B17.2.1) B17.2.2 i17 (Has.at H17 i17 rfl) (g := (mkF m 42 #[.val (.ref p_), .val (.int g), .val (.ref gr), .unset, .val (.int (0 : Int32))] [(.int (0 : Int32)), (.ref b)])) rfl rfl (hb hby d11_42) _ k) ?_
      show Fin _ p e below s _ _ _ T16 (mkF m 43 #[.val (.ref p_), .val (.int g), .val (.ref gr), .unset, .val (.int (0 : Int32))] [(.long w0)])
      refine Fin.go (fun _ k => XT.lconst X16.here hx rfl (hb hby d11_43) k) ?_
      refine Fin.go (fun _ k => XS.iloadN X16.here hx rfl (hb hby d11_44) rfl k) ?_
      refine Fin.go (fun _ k => XT.lshl X16.here hx rfl (hb hby d11_45) rfl k) ?_
      refine Fin.go (fun _ k => XT.land X16.here hx rfl (hb hby d11_46) rfl k) ?_
      show Fin _ p e below s _ _ _ T16 (mkF m 47 #[.val (.ref p_), .val (.int g), .val (.ref gr), .unset, .val (.int (0 : Int32))] [(.long (w0 &&& ((1 : Int64) <<< (Int32.toInt64 g &&& 63))))])
      refine Fin.go (fun _ k => XT.lconst X16.here hx rfl (hb hby d11_47) k) ?_
      refine Fin.go (fun _ k => XT.lcmp X16.here hx rfl (hb hby d11_48) rfl k) ?_
      by_cases c49 : (XT.cmpL (w0 &&& ((1 : Int64) <<< (Int32.toInt64 g &&& 63))) (0 : Int64)) = 0
      · refine Fin.go (fun _ k => XS.ifYes X16.here hx rfl (pc0 := 49) (pc' := 56) rfl (hb hby d11_49) rfl (XT.i0_eq_t c49) (by decide) (by decide) k) ?_
        show Fin _ p e below s _ _ _ T16 (mkF m 56 #[.val (.ref p_), .val (.int g), .val (.ref gr), .unset, .val (.int (0 : Int32))] [])
        refine Fin.go (fun _ k => XS.iconst X16.here hx rfl (hb hby d11_56) k) ?_
        refine Fin.go (fun _ k => XS.istoreN X16.here hx rfl (hb hby d11_57) rfl (l' := #[.val (.ref p_), .val (.int g), .val (.ref gr), .val (.int (0 : Int32)), .val (.int (0 : Int32))]) rfl k) ?_
        refine Fin.go (fun _ k => XS.iloadN X16.here hx rfl (hb hby d11_58) rfl k) ?_
        exact Fin.leaveN X16 e16 hlk (v := some (.int (nar .boolean (0 : Int32)))) (fun h => by rw [hret] at h; cases h) (by decide) (by decide) ⟨by simp [cnt1, tst, nar, c2, c33, c49], rfl, rfl⟩ (fun fs hr => retN X16 hx (t := .boolean) hret (by simp) (hb hby d11_59) hr)
      · refine Fin.go (fun _ k => XS.ifNo X16.here hx rfl (hb hby d11_49) rfl (XT.i0_eq_f c49) k) ?_
        show Fin _ p e below s _ _ _ T16 (mkF m 52 #[.val (.ref p_), .val (.int g), .val (.ref gr), .unset, .val (.int (0 : Int32))] [])
        refine Fin.go (fun _ k => XS.iconst X16.here hx rfl (hb hby d11_52) k) ?_
        refine Fin.go (fun _ k => XS.goto X16.here hx rfl (pc0 := 53) (pc' := 57) rfl (hb hby d11_53) (by decide) (by decide) k) ?_
        refine Fin.go (fun _ k => XS.istoreN X16.here hx rfl (hb hby d11_57) rfl (l' := #[.val (.ref p_), .val (.int g), .val (.ref gr), .val (.int (1 : Int32)), .val (.int (0 : Int32))]) rfl k) ?_
        refine Fin.go (fun _ k => XS.iloadN X16.here hx rfl (hb hby d11_58) rfl k) ?_
        show Fin _ p e below s _ _ _ T16 (mkF m 59 #[.val (.ref p_), .val (.int g), .val (.ref gr), .val (.int (1 : Int32)), .val (.int (0 : Int32))] [(.int (1 : Int32))])
        exact Fin.leaveN X16 e16 hlk (v := some (.int (nar .boolean (1 : Int32)))) (fun h => by rw [hret] at h; cases h) (by decide) (by decide) ⟨by simp [cnt1, tst, nar, c2, c33, c49], rfl, rfl⟩ (fun fs hr => retN X16 hx (t := .boolean) hret (by simp) (hb hby d11_59) hr)
    · refine Fin.go (fun _ k => XS.icmpYes X14.here hx rfl (pc0 := 33) (pc' := 56) rfl (hb hby d11_33) rfl (XT.ii_ge_t c33) (by decide) (by decide) k) ?_
      show Fin _ p e below s _ _ _ T14 (mkF m 56 #[.val (.ref p_), .val (.int g), .val (.ref gr), .unset, .val (.int (XT.ushr g (6 : Int32)))] [])
      refine Fin.go (fun _ k => XS.iconst X14.here hx rfl (hb hby d11_56) k) ?_
      refine Fin.go (fun _ k => XS.istoreN X14.here hx rfl (hb hby d11_57) rfl (l' := #[.val (.ref p_), .val (.int g), .val (.ref gr), .val (.int (0 : Int32)), .val (.int (XT.ushr g (6 : Int32)))]) rfl k) ?_
      refine Fin.go (fun _ k => XS.iloadN X14.here hx rfl (hb hby d11_58) rfl k) ?_
      exact Fin.leaveN X14 e14 hlk (v := some (.int (nar .boolean (0 : Int32)))) (fun h => by rw [hret] at h; cases h) (by decide) (by decide) ⟨by simp [cnt1, tst, nar, c2, c33], rfl, rfl⟩ (fun fs hr => retN X14 hx (t := .boolean) hret (by simp) (hb hby d11_59) hr)
set_option maxRecDepth 65536 in
set_option maxHeartbeats 40000000 in
theorem rmCnt2 (l : Launch) (Z : State) (a0 : Array Value) (hw : ∀ d ∈ tables_1, d.before a0 Z = true) (n0 : Nat) (h0 : Heap) (O : Old Z n0 h0) (p_ gr nm us b : Addr) (kb : ClassId) (g : Int32) (ds cs : List Int32) (B1 B2 : Nat) (w0 w1 : Int64) (ck : Int32) (S_cs : Sta Z Z.heap "java/lang/String" "COMPACT_STRINGS" "Z" (.int ck)) (hcs : ¬ ck = 0) (nab : nm ≠ us) (hd : ds.length ≤ 2) (hc : cs.length ≤ 2) (AG : Exa Z h0 gr "com/example/grantwell/grantwell/catalog/Grant") (FG : Fld Z h0 gr "com/example/grantwell/grantwell/catalog/Grant" "grantee" "Ljava/lang/String;" (.ref nm)) (FUs : Fld Z h0 p_ "com/example/grantwell/grantwell/engine/Principal" "user" "Ljava/lang/String;" (.ref us)) (FNb : Fld Z h0 p_ "com/example/grantwell/grantwell/engine/Principal" "numbered" "[J" (.ref b)) (FN : StrIs Z h0 nm (ds) B1) (FU : StrIs Z h0 us (cs) B2) (VB : Arv Z h0 b kb .long (2 : Int32) [(.long w0), (.long w1)] (.long (0 : Int64))) :
    ConW FrameEnd l Z [] (⟨"com/example/grantwell/grantwell/engine/Principal", "counts", "(ILcom/example/grantwell/grantwell/catalog/Grant;)Z"⟩ : MethodName) prog_78_method_4_code 5 (some .boolean) ({ frames := 2, cells := 0, slots := 0, locals := 28 } : Room) #[(.ref p_), (.int g), (.ref gr)] h0 (Pure h0 (some (.int (cnt2 g (eqI ds cs) w0 w1)))) := by
  refine conOf (plainFor_of_name pn_com_example_grantwell_grantwell_engine_Principal) ?_
  intro p e s m below mth cc s₁ X0 hx hby hml hown hnm hret hlk hZ e0
  have N0 := Fr.nil n0
  refine Fin.came (castTop (t := _) (by first | (simp [entryFrame, mkF, argsToLocals, Value.category]; done) | rfl) (Steps.refl _) : Steps p.tables e below (s₁.setTop (entryFrame m #[(.ref p_), (.int g), (.ref gr)] 5)) (s₁.setTop (mkF m 0 #[.val (.ref p_), .val (.int g), .val (.ref gr), .unset, .unset] []))) ?_
  show Fin _ p e below s _ _ _ s₁ (mkF m 0 #[.val (.ref p_), .val (.int g), .val (.ref gr), .unset, .unset] [])
  refine Fin.go (fun _ k => XS.iloadN X0.here hx rfl (hb hby d11_0) rfl k) ?_
  refine Fin.go (fun _ k => XS.iconst X0.here hx rfl (hb hby d11_1) k) ?_
  by_cases c2 : g = (-1 : Int32)
  · refine Fin.go (fun _ k => XS.icmpNo X0.here hx rfl (hb hby d11_2) rfl (XT.ii_ne_f c2) k) ?_
    show Fin _ p e below s _ _ _ s₁ (mkF m 5 #[.val (.ref p_), .val (.int g), .val (.ref gr), .unset, .unset] [])
    refine Fin.go (fun _ k => XS.aloadN X0.here hx rfl (hb hby d11_5) rfl rfl k) ?_
    obtain ⟨v11, T11, L11, X11, q11, st11⟩ := callVt X0 hx hZ (y := (⟨"com/example/grantwell/grantwell/catalog/Grant", "grantee", "()Ljava/lang/String;"⟩ : MethodName)) hown (hw _ w_92) (hw _ w_93) (hw _ w_95) (hw _ w_94) (hw _ w_30) (hw _ w_96) (by decide) (W := 0) (rmGe l Z a0 hw n0 h0 O gr nm FG) e0 AG (by decide) (by decide) (by decide) (by decide) (g := (mkF m 6 #[.val (.ref p_), .val (.int g), .val (.ref gr), .unset, .unset] [(.ref gr)])) rfl (by rw [hml]; rfl) (argsL := []) (rest := []) (lenOf pd_ocLjava_lang_String_ rfl) rfl (by show 2 * 0 + _ ≤ _; exact Nat.le_of_eq rfl) (hb hby d11_6)
    obtain ⟨rfl, e11, rfl⟩ := q11
    have N11 := Fr.app N0 (Fr.nil n0)
    refine Fin.go st11 ?_
    show Fin _ p e below s _ _ _ T11 (mkF m 9 #[.val (.ref p_), .val (.int g), .val (.ref gr), .unset, .unset] [(.ref nm)])
    refine Fin.go (fun _ k => XS.aloadN X11.here hx rfl (hb hby d11_9) rfl rfl k) ?_
    obtain ⟨T12, X12, e12, st12⟩ := getF X11 hx hZ hown (host := "") (Or.inl (hw _ w_81)) Via.refl e11 FUs (g := (mkF m 10 #[.val (.ref p_), .val (.int g), .val (.ref gr), .unset, .unset] [(.ref p_), (.ref nm)])) rfl rfl (hb hby d11_10)
    refine Fin.go st12 ?_
    show Fin _ p e below s _ _ _ T12 (mkF m 13 #[.val (.ref p_), .val (.int g), .val (.ref gr), .unset, .unset] [(.ref us), (.ref nm)])
    obtain ⟨v13, T13, L13, X13, q13, st13⟩ := callVt X12 hx hZ (y := (⟨"java/lang/String", "equals", "(Ljava/lang/Object;)Z"⟩ : MethodName)) hown (hw _ w_97) (hw _ w_98) (hw _ w_100) (hw _ w_99) (hw _ w_8) (hw _ w_101) (by decide) (W := 0) (rmEqS l Z a0 hw n0 h0 O nm us ds cs B1 B2 ck S_cs hcs nab hd hc FN FU) e12 FN.exa (by decide) (by decide) (by decide) (by decide) (g := (mkF m 13 #[.val (.ref p_), .val (.int g), .val (.ref gr), .unset, .unset] [(.ref us), (.ref nm)])) rfl (by rw [hml]; rfl) (argsL := [(.ref us)]) (rest := []) (lenOf pd_oLjava_lang_Object_cZ rfl) rfl (by show 2 * 0 + _ ≤ _; exact Nat.le_of_eq rfl) (hb hby d11_13)
    obtain ⟨rfl, e13, rfl⟩ := q13
    have N13 := Fr.app N11 (Fr.nil n0)
    refine Fin.go st13 ?_
    show Fin _ p e below s _ _ _ T13 (mkF m 16 #[.val (.ref p_), .val (.int g), .val (.ref gr), .unset, .unset] [(.int (eqI ds cs))])
    refine Fin.go (fun _ k => XS.istoreN X13.here hx rfl (hb hby d11_16) rfl (l' := #[.val (.ref p_), .val (.int g), .val (.ref gr), .val (.int (eqI ds cs)), .unset]) rfl k) ?_
    refine Fin.go (fun _ k => XS.goto X13.here hx rfl (pc0 := 17) (pc' := 58) rfl (hb hby d11_17) (by decide) (by decide) k) ?_
    refine Fin.go (fun _ k => XS.iloadN X13.here hx rfl (hb hby d11_58) rfl k) ?_
    exact Fin.leaveN X13 e13 hlk (v := some (.int (nar .boolean (eqI ds cs)))) (fun h => by rw [hret] at h; cases h) (by decide) (by decide) ⟨by rw [eqI01]; simp [cnt2, c2], rfl, rfl⟩ (fun fs hr => retN X13 hx (t := .boolean) hret (by simp) (hb hby d11_59) hr)
  · refine Fin.go (fun _ k => XS.icmpYes X0.here hx rfl (pc0 := 2) (pc' := 20) rfl (hb hby d11_2) rfl (XT.ii_ne_t c2) (by decide) (by decide) k) ?_
    show Fin _ p e below s _ _ _ s₁ (mkF m 20 #[.val (.ref p_), .val (.int g), .val (.ref gr), .unset, .unset] [])
    refine Fin.go (fun _ k => XS.iloadN X0.here hx rfl (hb hby d11_20) rfl k) ?_
    refine Fin.go (fun _ k => XS.bipush X0.here hx rfl (hb hby d11_21) k) ?_
    refine Fin.go (fun _ k => XT.iushr X0.here hx rfl (hb hby d11_23) rfl k) ?_
    refine Fin.go (fun _ k => XS.istore X0.here hx rfl (hb hby d11_24) rfl (l' := #[.val (.ref p_), .val (.int g), .val (.ref gr), .unset, .val (.int (XT.ushr g (6 : Int32)))]) rfl k) ?_
    show Fin _ p e below s _ _ _ s₁ (mkF m 26 #[.val (.ref p_), .val (.int g), .val (.ref gr), .unset, .val (.int (XT.ushr g (6 : Int32)))] [])
    refine Fin.go (fun _ k => XS.iload X0.here hx rfl (hb hby d11_26) rfl k) ?_
    refine Fin.go (fun _ k => XS.aloadN X0.here hx rfl (hb hby d11_28) rfl rfl k) ?_
    obtain ⟨T14, X14, e14, st14⟩ := getF X0 hx hZ hown (host := "") (Or.inl (hw _ w_85)) Via.refl e0 FNb (g := (mkF m 29 #[.val (.ref p_), .val (.int g), .val (.ref gr), .unset, .val (.int (XT.ushr g (6 : Int32)))] [(.ref p_), (.int (XT.ushr g (6 : Int32)))])) rfl rfl (hb hby d11_29)
    refine Fin.go st14 ?_
    show Fin _ p e below s _ _ _ T14 (mkF m 32 #[.val (.ref p_), .val (.int g), .val (.ref gr), .unset, .val (.int (XT.ushr g (6 : Int32)))] [(.ref b), (.int (XT.ushr g (6 : Int32)))])
    obtain ⟨c15, B15, q15, S15, M15, H15, G15⟩ := id VB
    refine Fin.go (fun _ k => X14.arraylength hx (by rw [e14]; exact B15.1) (State.isArrayOf_alike hZ.alike B15.2.1) (g := (mkF m 32 #[.val (.ref p_), .val (.int g), .val (.ref gr), .unset, .val (.int (XT.ushr g (6 : Int32)))] [(.ref b), (.int (XT.ushr g (6 : Int32)))])) rfl rfl (hb hby d11_32) _ k) ?_
    rw [len_of S15 M15]
    show Fin _ p e below s _ _ _ T14 (mkF m 33 #[.val (.ref p_), .val (.int g), .val (.ref gr), .unset, .val (.int (XT.ushr g (6 : Int32)))] [(.int (2 : Int32)), (.int (XT.ushr g (6 : Int32)))])
    by_cases c33 : (XT.ushr g (6 : Int32)) < (2 : Int32)
    · refine Fin.go (fun _ k => XS.icmpNo X14.here hx rfl (hb hby d11_33) rfl (XT.ii_ge_f c33) k) ?_
      show Fin _ p e below s _ _ _ T14 (mkF m 36 #[.val (.ref p_), .val (.int g), .val (.ref gr), .unset, .val (.int (XT.ushr g (6 : Int32)))] [])
      by_cases hj : (XT.ushr g (6 : Int32)) = 0
      · rw [hj]
        show Fin _ p e below s _ _ _ T14 (mkF m 36 #[.val (.ref p_), .val (.int g), .val (.ref gr), .unset, .val (.int (0 : Int32))] [])
        refine Fin.go (fun _ k => XS.aloadN X14.here hx rfl (hb hby d11_36) rfl rfl k) ?_
        obtain ⟨T16, X16, e16, st16⟩ := getF X14 hx hZ hown (host := "") (Or.inl (hw _ w_85)) Via.refl e14 FNb (g := (mkF m 37 #[.val (.ref p_), .val (.int g), .val (.ref gr), .unset, .val (.int (0 : Int32))] [(.ref p_)])) rfl rfl (hb hby d11_37)
        refine Fin.go st16 ?_
        show Fin _ p e below s _ _ _ T16 (mkF m 40 #[.val (.ref p_), .val (.int g), .val (.ref gr), .unset, .val (.int (0 : Int32))] [(.ref b)])
        refine Fin.go (fun _ k => XS.iload X16.here hx rfl (hb hby d11_40) rfl k) ?_
        obtain ⟨c17, B17, q17, S17, M17, H17, G17⟩ := id VB
        have i17 := inb_of S17 ⟨(by decide : ¬ ((0 : Int32) < (0 : Int32))), (by decide : (0 : Int32) < (2 : Int32))⟩
        refine Fin.go (fun _ k => X16.laload hx (j := (0 : Int32)) (v := (.long w0)) (by rw [e16]; exact B17.1) (State.isArrayOf_alike hZ.alike B17.2.1) B17.2.2 i17 (Has.at H17 i17 rfl) (g := (mkF m 42 #[.val (.ref p_), .val (.int g), .val (.ref gr), .unset, .val (.int (0 : Int32))] [(.int (0 : Int32)), (.ref b)])) rfl rfl (hb hby d11_42) _ k) ?_
        show Fin _ p e below s _ _ _ T16 (mkF m 43 #[.val (.ref p_), .val (.int g), .val (.ref gr), .unset, .val (.int (0 : Int32))] [(.long w0)])
        refine Fin.go (fun _ k => XT.lconst X16.here hx rfl (hb hby d11_43) k) ?_
        refine Fin.go (fun _ k => XS.iloadN X16.here hx rfl (hb hby d11_44) rfl k) ?_
        refine Fin.go (fun _ k => XT.lshl X16.here hx rfl (hb hby d11_45) rfl k) ?_
        refine Fin.go (fun _ k => XT.land X16.here hx rfl (hb hby d11_46) rfl k) ?_
        show Fin _ p e below s _ _ _ T16 (mkF m 47 #[.val (.ref p_), .val (.int g), .val (.ref gr), .unset, .val (.int (0 : Int32))] [(.long (w0 &&& ((1 : Int64) <<< (Int32.toInt64 g &&& 63))))])
        refine Fin.go (fun _ k => XT.lconst X16.here hx rfl (hb hby d11_47) k) ?_
        refine Fin.go (fun _ k => XT.lcmp X16.here hx rfl (hb hby d11_48) rfl k) ?_
        by_cases c49 : (XT.cmpL (w0 &&& ((1 : Int64) <<< (Int32.toInt64 g &&& 63))) (0 : Int64)) = 0
        · refine Fin.go (fun _ k => XS.ifYes X16.here hx rfl (pc0 := 49) (pc' := 56) rfl (hb hby d11_49) rfl (XT.i0_eq_t c49) (by decide) (by decide) k) ?_
          show Fin _ p e below s _ _ _ T16 (mkF m 56 #[.val (.ref p_), .val (.int g), .val (.ref gr), .unset, .val (.int (0 : Int32))] [])
          refine Fin.go (fun _ k => XS.iconst X16.here hx rfl (hb hby d11_56) k) ?_
          refine Fin.go (fun _ k => XS.istoreN X16.here hx rfl (hb hby d11_57) rfl (l' := #[.val (.ref p_), .val (.int g), .val (.ref gr), .val (.int (0 : Int32)), .val (.int (0 : Int32))]) rfl k) ?_
          refine Fin.go (fun _ k => XS.iloadN X16.here hx rfl (hb hby d11_58) rfl k) ?_
          exact Fin.leaveN X16 e16 hlk (v := some (.int (nar .boolean (0 : Int32)))) (fun h => by rw [hret] at h; cases h) (by decide) (by decide) ⟨by simp [cnt2, tst, nar, c2, c33, hj, c49], rfl, rfl⟩ (fun fs hr => retN X16 hx (t := .boolean) hret (by simp) (hb hby d11_59) hr)
        · refine Fin.go (fun _ k => XS.ifNo X16.here hx rfl (hb hby d11_49) rfl (XT.i0_eq_f c49) k) ?_
          show Fin _ p e below s _ _ _ T16 (mkF m 52 #[.val (.ref p_), .val (.int g), .val (.ref gr), .unset, .val (.int (0 : Int32))] [])
          refine Fin.go (fun _ k => XS.iconst X16.here hx rfl (hb hby d11_52) k) ?_
          refine Fin.go (fun _ k => XS.goto X16.here hx rfl (pc0 := 53) (pc' := 57) rfl (hb hby d11_53) (by decide) (by decide) k) ?_
          refine Fin.go (fun _ k => XS.istoreN X16.here hx rfl (hb hby d11_57) rfl (l' := #[.val (.ref p_), .val (.int g), .val (.ref gr), .val (.int (1 : Int32)), .val (.int (0 : Int32))]) rfl k) ?_
          refine Fin.go (fun _ k => XS.iloadN X16.here hx rfl (hb hby d11_58) rfl k) ?_
          show Fin _ p e below s _ _ _ T16 (mkF m 59 #[.val (.ref p_), .val (.int g), .val (.ref gr), .val (.int (1 : Int32)), .val (.int (0 : Int32))] [(.int (1 : Int32))])
          exact Fin.leaveN X16 e16 hlk (v := some (.int (nar .boolean (1 : Int32)))) (fun h => by rw [hret] at h; cases h) (by decide) (by decide) ⟨by simp [cnt2, tst, nar, c2, c33, hj, c49], rfl, rfl⟩ (fun fs hr => retN X16 hx (t := .boolean) hret (by simp) (hb hby d11_59) hr)
      · rw [ush6_2 c33 hj]
        show Fin _ p e below s _ _ _ T14 (mkF m 36 #[.val (.ref p_), .val (.int g), .val (.ref gr), .unset, .val (.int (1 : Int32))] [])
        refine Fin.go (fun _ k => XS.aloadN X14.here hx rfl (hb hby d11_36) rfl rfl k) ?_
        obtain ⟨T18, X18, e18, st18⟩ := getF X14 hx hZ hown (host := "") (Or.inl (hw _ w_85)) Via.refl e14 FNb (g := (mkF m 37 #[.val (.ref p_), .val (.int g), .val (.ref gr), .unset, .val (.int (1 : Int32))] [(.ref p_)])) rfl rfl (hb hby d11_37)
        refine Fin.go st18 ?_
        show Fin _ p e below s _ _ _ T18 (mkF m 40 #[.val (.ref p_), .val (.int g), .val (.ref gr), .unset, .val (.int (1 : Int32))] [(.ref b)])
        refine Fin.go (fun _ k => XS.iload X18.here hx rfl (hb hby d11_40) rfl k) ?_
        obtain ⟨c19, B19, q19, S19, M19, H19, G19⟩ := id VB
        have i19 := inb_of S19 ⟨(by decide : ¬ ((1 : Int32) < (0 : Int32))), (by decide : (1 : Int32) < (2 : Int32))⟩
        refine Fin.go (fun _ k => X18.laload hx (j := (1 : Int32)) (v := (.long w1)) (by rw [e18]; exact B19.1) (State.isArrayOf_alike hZ.alike B19.2.1) B19.2.2 i19 (Has.at H19 i19 rfl) (g := (mkF m 42 #[.val (.ref p_), .val (.int g), .val (.ref gr), .unset, .val (.int (1 : Int32))] [(.int (1 : Int32)), (.ref b)])) rfl rfl (hb hby d11_42) _ k) ?_
        show Fin _ p e below s _ _ _ T18 (mkF m 43 #[.val (.ref p_), .val (.int g), .val (.ref gr), .unset, .val (.int (1 : Int32))] [(.long w1)])
        refine Fin.go (fun _ k => XT.lconst X18.here hx rfl (hb hby d11_43) k) ?_
        refine Fin.go (fun _ k => XS.iloadN X18.here hx rfl (hb hby d11_44) rfl k) ?_
        refine Fin.go (fun _ k => XT.lshl X18.here hx rfl (hb hby d11_45) rfl k) ?_
        refine Fin.go (fun _ k => XT.land X18.here hx rfl (hb hby d11_46) rfl k) ?_
        show Fin _ p e below s _ _ _ T18 (mkF m 47 #[.val (.ref p_), .val (.int g), .val (.ref gr), .unset, .val (.int (1 : Int32))] [(.long (w1 &&& ((1 : Int64) <<< (Int32.toInt64 g &&& 63))))])
        refine Fin.go (fun _ k => XT.lconst X18.here hx rfl (hb hby d11_47) k) ?_
        refine Fin.go (fun _ k => XT.lcmp X18.here hx rfl (hb hby d11_48) rfl k) ?_
        by_cases c49 : (XT.cmpL (w1 &&& ((1 : Int64) <<< (Int32.toInt64 g &&& 63))) (0 : Int64)) = 0
        · refine Fin.go (fun _ k => XS.ifYes X18.here hx rfl (pc0 := 49) (pc' := 56) rfl (hb hby d11_49) rfl (XT.i0_eq_t c49) (by decide) (by decide) k) ?_
          show Fin _ p e below s _ _ _ T18 (mkF m 56 #[.val (.ref p_), .val (.int g), .val (.ref gr), .unset, .val (.int (1 : Int32))] [])
          refine Fin.go (fun _ k => XS.iconst X18.here hx rfl (hb hby d11_56) k) ?_
          refine Fin.go (fun _ k => XS.istoreN X18.here hx rfl (hb hby d11_57) rfl (l' := #[.val (.ref p_), .val (.int g), .val (.ref gr), .val (.int (0 : Int32)), .val (.int (1 : Int32))]) rfl k) ?_
          refine Fin.go (fun _ k => XS.iloadN X18.here hx rfl (hb hby d11_58) rfl k) ?_
          exact Fin.leaveN X18 e18 hlk (v := some (.int (nar .boolean (0 : Int32)))) (fun h => by rw [hret] at h; cases h) (by decide) (by decide) ⟨by simp [cnt2, tst, nar, c2, c33, hj, c49], rfl, rfl⟩ (fun fs hr => retN X18 hx (t := .boolean) hret (by simp) (hb hby d11_59) hr)
        · refine Fin.go (fun _ k => XS.ifNo X18.here hx rfl (hb hby d11_49) rfl (XT.i0_eq_f c49) k) ?_
          show Fin _ p e below s _ _ _ T18 (mkF m 52 #[.val (.ref p_), .val (.int g), .val (.ref gr), .unset, .val (.int (1 : Int32))] [])
          refine Fin.go (fun _ k => XS.iconst X18.here hx rfl (hb hby d11_52) k) ?_
          refine Fin.go (fun _ k => XS.goto X18.here hx rfl (pc0 := 53) (pc' := 57) rfl (hb hby d11_53) (by decide) (by decide) k) ?_
          refine Fin.go (fun _ k => XS.istoreN X18.here hx rfl (hb hby d11_57) rfl (l' := #[.val (.ref p_), .val (.int g), .val (.ref gr), .val (.int (1 : Int32)), .val (.int (1 : Int32))]) rfl k) ?_
          refine Fin.go (fun _ k => XS.iloadN X18.here hx rfl (hb hby d11_58) rfl k) ?_
          show Fin _ p e below s _ _ _ T18 (mkF m 59 #[.val (.ref p_), .val (.int g), .val (.ref gr), .val (.int (1 : Int32)), .val (.int (1 : Int32))] [(.int (1 : Int32))])
          exact Fin.leaveN X18 e18 hlk (v := some (.int (nar .boolean (1 : Int32)))) (fun h => by rw [hret] at h; cases h) (by decide) (by decide) ⟨by simp [cnt2, tst, nar, c2, c33, hj, c49], rfl, rfl⟩ (fun fs hr => retN X18 hx (t := .boolean) hret (by simp) (hb hby d11_59) hr)
    · refine Fin.go (fun _ k => XS.icmpYes X14.here hx rfl (pc0 := 33) (pc' := 56) rfl (hb hby d11_33) rfl (XT.ii_ge_t c33) (by decide) (by decide) k) ?_
      show Fin _ p e below s _ _ _ T14 (mkF m 56 #[.val (.ref p_), .val (.int g), .val (.ref gr), .unset, .val (.int (XT.ushr g (6 : Int32)))] [])
      refine Fin.go (fun _ k => XS.iconst X14.here hx rfl (hb hby d11_56) k) ?_
      refine Fin.go (fun _ k => XS.istoreN X14.here hx rfl (hb hby d11_57) rfl (l' := #[.val (.ref p_), .val (.int g), .val (.ref gr), .val (.int (0 : Int32)), .val (.int (XT.ushr g (6 : Int32)))]) rfl k) ?_
      refine Fin.go (fun _ k => XS.iloadN X14.here hx rfl (hb hby d11_58) rfl k) ?_
      exact Fin.leaveN X14 e14 hlk (v := some (.int (nar .boolean (0 : Int32)))) (fun h => by rw [hret] at h; cases h) (by decide) (by decide) ⟨by simp [cnt2, tst, nar, c2, c33], rfl, rfl⟩ (fun fs hr => retN X14 hx (t := .boolean) hret (by simp) (hb hby d11_59) hr)
theorem cnt1_lo {g q : Int32} {w0 : Int64} (a : ¬ g = -1) (b : ¬ g < 0) (c : g < 64) : cnt1 g q w0 = tst w0 g := by
  obtain ⟨h1, h2, h3, h4, h5, h6, h7⟩ := g_lit (g := g)
  have := rng32 g
  have u : (XT.ushr g (6 : Int32)) < 1 := h5.mpr (by rw [h2] at b; rw [h3] at c; omega)
  simp only [cnt1, if_neg a, if_pos u]
theorem cnt2_lo {g q : Int32} {w0 w1 : Int64} (a : ¬ g = -1) (b : ¬ g < 0) (c : g < 64) : cnt2 g q w0 w1 = tst w0 g := by
  obtain ⟨h1, h2, h3, h4, h5, h6, h7⟩ := g_lit (g := g)
  have := rng32 g
  have u : (XT.ushr g (6 : Int32)) < 2 := h6.mpr (by rw [h2] at b; rw [h3] at c; omega)
  have v : (XT.ushr g (6 : Int32)) = 0 := h7.mpr (by rw [h2] at b; rw [h3] at c; omega)
  simp only [cnt2, if_neg a, if_pos u, if_pos v]
theorem cnt2_hi {g q : Int32} {w0 w1 : Int64} (a : ¬ g = -1) (b : ¬ g < 0) (c : ¬ g < 64) (d : g < 128) : cnt2 g q w0 w1 = tst w1 g := by
  obtain ⟨h1, h2, h3, h4, h5, h6, h7⟩ := g_lit (g := g)
  have := rng32 g
  have u : (XT.ushr g (6 : Int32)) < 2 := h6.mpr (by rw [h2] at b; rw [h3] at c; rw [h4] at d; omega)
  have v : ¬ (XT.ushr g (6 : Int32)) = 0 := fun e => by have := h7.mp e; rw [h2] at b; rw [h3] at c; omega
  simp only [cnt2, if_neg a, if_pos u, if_neg v]
theorem cnt0_0 {g q : Int32} (a : ¬ g = -1) : cnt0 g q = 0 := if_neg a
theorem cnt1_0 {g q : Int32} {w0 : Int64} (a : ¬ g = -1) (b : g < 0 ∨ ¬ g < 64) : cnt1 g q w0 = 0 := by
  obtain ⟨h1, h2, h3, h4, h5, h6, h7⟩ := g_lit (g := g)
  have := rng32 g
  have u : ¬ (XT.ushr g (6 : Int32)) < 1 := fun e => by have q := h5.mp e; rw [h2, h3] at b; omega
  simp only [cnt1, if_neg a, if_neg u]
theorem cnt2_0 {g q : Int32} {w0 w1 : Int64} (a : ¬ g = -1) (b : g < 0 ∨ ¬ g < 128) : cnt2 g q w0 w1 = 0 := by
  obtain ⟨h1, h2, h3, h4, h5, h6, h7⟩ := g_lit (g := g)
  have := rng32 g
  have u : ¬ (XT.ushr g (6 : Int32)) < 2 := fun e => by have q := h6.mp e; rw [h2, h4] at b; omega
  simp only [cnt2, if_neg a, if_neg u]
set_option maxRecDepth 65536 in
set_option maxHeartbeats 40000000 in
theorem law (l : Launch) (Z : State) (a0 : Array Value) (hw : ∀ d ∈ tables_1, d.before a0 Z = true) (n0 : Nat) (h0 : Heap) (O : Old Z n0 h0) (p0 p1 : Int32) (w0 w1 : Int64) (p6 p7 : Int32) (cs : Int32) (S_cs : Sta Z Z.heap "java/lang/String" "COMPACT_STRINGS" "Z" (.int cs)) (hcs : ¬ cs = 0) (aS : Addr) (S_aS : Sta Z Z.heap "com/example/grantwell/grantwell/catalog/Privilege" "SELECT" "Lcom/example/grantwell/grantwell/catalog/Privilege;" (.ref aS)) :
    ConHW l Z EL tables_1 x code maxLocals ret room_1 #[(.int p0), (.int p1), (.long w0), (.long w1), (.int p6), (.int p7)] h0 (fun v h L => v = some (.int 1) ∧ Fr n0 L) := by
  refine conOfH (plainFor_of_name pn_com_example_grantwell_grantwell_engine_PrincipalCountsPinLaw) ?_
  intro p e s m below mth cc s₁ X0 hx hby hml hown hnm hret hlk hZ e0 hS RR0
  have N0 := Fr.nil n0
  have hEL := elW hw
  refine Fin.came (castTop (t := _) (by first | (simp [entryFrame, mkF, argsToLocals, Value.category, maxLocals]; done) | rfl) (Steps.refl _) : Steps p.tables e below (s₁.setTop (entryFrame m #[(.int p0), (.int p1), (.long w0), (.long w1), (.int p6), (.int p7)] maxLocals)) (s₁.setTop (mkF m 0 #[.val (.int p0), .val (.int p1), .val (.long w0), .second, .val (.long w1), .second, .val (.int p6), .val (.int p7), .unset, .unset, .unset, .unset, .unset, .unset, .unset, .unset, .unset, .unset, .unset, .unset, .unset, .unset, .unset, .unset] []))) ?_
  show Fin _ p e below s _ _ _ s₁ (mkF m 0 #[.val (.int p0), .val (.int p1), .val (.long w0), .second, .val (.long w1), .second, .val (.int p6), .val (.int p7), .unset, .unset, .unset, .unset, .unset, .unset, .unset, .unset, .unset, .unset, .unset, .unset, .unset, .unset, .unset, .unset] [])
  have tail : ∀ (x9 : Int32), Fin (EH Z EL) p e below s (fun v h L => v = some (.int 1) ∧ Fr n0 L) room_1.cells room_1.slots s₁ (mkF m 50 #[.val (.int p0), .val (.int p1), .val (.long w0), .second, .val (.long w1), .second, .val (.int p6), .val (.int p7), .val (.int (p1 &&& (3 : Int32))), .val (.int x9), .unset, .unset, .unset, .unset, .unset, .unset, .unset, .unset, .unset, .unset, .unset, .unset, .unset, .unset] []) := by
    intro x9
    refine Fin.go (fun _ k => XS.iload X0.here hx rfl (hb hby at_50) rfl k) ?_
    refine Fin.go (fun _ k => X0.ldcI hx hown (mvT hZ (hw _ w_0)) rfl (hb hby at_52) k) ?_
    refine Fin.go (fun _ k => XS.iand X0.here hx rfl (hb hby at_54) rfl k) ?_
    refine Fin.go (fun _ k => XS.iconst X0.here hx rfl (hb hby at_55) k) ?_
    show Fin _ p e below s _ _ _ s₁ (mkF m 56 #[.val (.int p0), .val (.int p1), .val (.long w0), .second, .val (.long w1), .second, .val (.int p6), .val (.int p7), .val (.int (p1 &&& (3 : Int32))), .val (.int x9), .unset, .unset, .unset, .unset, .unset, .unset, .unset, .unset, .unset, .unset, .unset, .unset, .unset, .unset] [(.int (3 : Int32)), (.int (p6 &&& (2147483647 : Int32)))])
    refine Fin.go (fun _ k => iremM X0 hx rfl (hb hby at_56) rfl (by decide) k) ?_
    refine Fin.go (fun _ k => XS.istore X0.here hx rfl (hb hby at_57) rfl (l' := #[.val (.int p0), .val (.int p1), .val (.long w0), .second, .val (.long w1), .second, .val (.int p6), .val (.int p7), .val (.int (p1 &&& (3 : Int32))), .val (.int x9), .val (.int ((p6 &&& (2147483647 : Int32)) % (3 : Int32))), .unset, .unset, .unset, .unset, .unset, .unset, .unset, .unset, .unset, .unset, .unset, .unset, .unset]) rfl k) ?_
    refine Fin.go (fun _ k => XS.iload X0.here hx rfl (hb hby at_59) rfl k) ?_
    by_cases c61 : ((p6 &&& (2147483647 : Int32)) % (3 : Int32)) = 0
    · refine Fin.go (fun _ k => XS.ifNo X0.here hx rfl (hb hby at_61) rfl (XT.i0_ne_f c61) k) ?_
      show Fin _ p e below s _ _ _ s₁ (mkF m 64 #[.val (.int p0), .val (.int p1), .val (.long w0), .second, .val (.long w1), .second, .val (.int p6), .val (.int p7), .val (.int (p1 &&& (3 : Int32))), .val (.int x9), .val (.int ((p6 &&& (2147483647 : Int32)) % (3 : Int32))), .unset, .unset, .unset, .unset, .unset, .unset, .unset, .unset, .unset, .unset, .unset, .unset, .unset] [])
      rw [c61]
      show Fin _ p e below s _ _ _ s₁ (mkF m 64 #[.val (.int p0), .val (.int p1), .val (.long w0), .second, .val (.long w1), .second, .val (.int p6), .val (.int p7), .val (.int (p1 &&& (3 : Int32))), .val (.int x9), .val (.int (0 : Int32)), .unset, .unset, .unset, .unset, .unset, .unset, .unset, .unset, .unset, .unset, .unset, .unset, .unset] [])
      refine Fin.go (fun _ k => XS.iconst X0.here hx rfl (hb hby at_64) k) ?_
      obtain ⟨T11, h11, k11, X11, e11, E11, A11, st11⟩ := newP X0 hx hZ (aty := .long) (hw _ w_1) e0 (g := (mkF m 65 #[.val (.int p0), .val (.int p1), .val (.long w0), .second, .val (.long w1), .second, .val (.int p6), .val (.int p7), .val (.int (p1 &&& (3 : Int32))), .val (.int x9), .val (.int (0 : Int32)), .unset, .unset, .unset, .unset, .unset, .unset, .unset, .unset, .unset, .unset, .unset, .unset, .unset] [(.int (0 : Int32))])) rfl (hb hby at_65) rfl (by decide : ¬ ((0 : Int32) < (0 : Int32))) (cap := 0) (by decide) (by decide) (by decide) (by decide)
      obtain ⟨a11, g11⟩ : ∃ z, z = h0.size := ⟨_, rfl⟩
      rw [← g11] at A11 st11
      refine Fin.go st11 ?_
      have O11 := O.ext E11
      have hk11 := Nat.le_trans (Nat.zero_le _) E11.1
      have RR11 := RR0.trans (CHr.ext E11 RR0.1)
      have n11 : n0 ≤ a11 := by have := O.2.1; have := O.1; omega
      have V11 : Arv Z h11 a11 k11 .long (0 : Int32) [] (.long (0 : Int64)) := (Arv.new A11 (by decide))
      show Fin _ p e below s _ _ _ T11 (mkF m 67 #[.val (.int p0), .val (.int p1), .val (.long w0), .second, .val (.long w1), .second, .val (.int p6), .val (.int p7), .val (.int (p1 &&& (3 : Int32))), .val (.int x9), .val (.int (0 : Int32)), .unset, .unset, .unset, .unset, .unset, .unset, .unset, .unset, .unset, .unset, .unset, .unset, .unset] [(.ref a11)])
      refine Fin.go (fun _ k => XS.astore X11.here hx rfl (hb hby at_67) rfl rfl (l' := #[.val (.int p0), .val (.int p1), .val (.long w0), .second, .val (.long w1), .second, .val (.int p6), .val (.int p7), .val (.int (p1 &&& (3 : Int32))), .val (.int x9), .val (.int (0 : Int32)), .val (.ref a11), .unset, .unset, .unset, .unset, .unset, .unset, .unset, .unset, .unset, .unset, .unset, .unset]) rfl k) ?_
      refine Fin.go (fun _ k => XS.goto X11.here hx rfl (pc0 := 69) (pc' := 104) rfl (hb hby at_69) (by decide) (by decide) k) ?_
      refine Fin.go (fun _ k => XS.iload X11.here hx rfl (hb hby at_104) rfl k) ?_
      refine Fin.go (fun _ k => XS.sipush X11.here hx rfl (hb hby at_106) k) ?_
      show Fin _ p e below s _ _ _ T11 (mkF m 109 #[.val (.int p0), .val (.int p1), .val (.long w0), .second, .val (.long w1), .second, .val (.int p6), .val (.int p7), .val (.int (p1 &&& (3 : Int32))), .val (.int x9), .val (.int (0 : Int32)), .val (.ref a11), .unset, .unset, .unset, .unset, .unset, .unset, .unset, .unset, .unset, .unset, .unset, .unset] [(.int (255 : Int32)), (.int p7)])
      refine Fin.go (fun _ k => XS.iand X11.here hx rfl (hb hby at_109) rfl k) ?_
      refine Fin.go (fun _ k => XT.i2c X11.here hx rfl (hb hby at_110) rfl k) ?_
      refine Fin.go (fun _ k => XS.istore X11.here hx rfl (hb hby at_111) rfl (l' := #[.val (.int p0), .val (.int p1), .val (.long w0), .second, .val (.long w1), .second, .val (.int p6), .val (.int p7), .val (.int (p1 &&& (3 : Int32))), .val (.int x9), .val (.int (0 : Int32)), .val (.ref a11), .val (.int ((Int32.toUInt32 (p7 &&& (255 : Int32))).toUInt16.toUInt32.toInt32)), .unset, .unset, .unset, .unset, .unset, .unset, .unset, .unset, .unset, .unset, .unset]) rfl k) ?_
      refine Fin.go (fun _ k => XS.iload X11.here hx rfl (hb hby at_113) rfl k) ?_
      show Fin _ p e below s _ _ _ T11 (mkF m 115 #[.val (.int p0), .val (.int p1), .val (.long w0), .second, .val (.long w1), .second, .val (.int p6), .val (.int p7), .val (.int (p1 &&& (3 : Int32))), .val (.int x9), .val (.int (0 : Int32)), .val (.ref a11), .val (.int ((Int32.toUInt32 (p7 &&& (255 : Int32))).toUInt16.toUInt32.toInt32)), .unset, .unset, .unset, .unset, .unset, .unset, .unset, .unset, .unset, .unset, .unset] [(.int p7)])
      refine Fin.go (fun _ k => XS.bipush X11.here hx rfl (hb hby at_115) k) ?_
      refine Fin.go (fun _ k => XT.iushr X11.here hx rfl (hb hby at_117) rfl k) ?_
      refine Fin.go (fun _ k => XS.sipush X11.here hx rfl (hb hby at_118) k) ?_
      refine Fin.go (fun _ k => XS.iand X11.here hx rfl (hb hby at_121) rfl k) ?_
      show Fin _ p e below s _ _ _ T11 (mkF m 122 #[.val (.int p0), .val (.int p1), .val (.long w0), .second, .val (.long w1), .second, .val (.int p6), .val (.int p7), .val (.int (p1 &&& (3 : Int32))), .val (.int x9), .val (.int (0 : Int32)), .val (.ref a11), .val (.int ((Int32.toUInt32 (p7 &&& (255 : Int32))).toUInt16.toUInt32.toInt32)), .unset, .unset, .unset, .unset, .unset, .unset, .unset, .unset, .unset, .unset, .unset] [(.int ((XT.ushr p7 (8 : Int32)) &&& (255 : Int32)))])
      refine Fin.go (fun _ k => XT.i2c X11.here hx rfl (hb hby at_122) rfl k) ?_
      refine Fin.go (fun _ k => XS.istore X11.here hx rfl (hb hby at_123) rfl (l' := #[.val (.int p0), .val (.int p1), .val (.long w0), .second, .val (.long w1), .second, .val (.int p6), .val (.int p7), .val (.int (p1 &&& (3 : Int32))), .val (.int x9), .val (.int (0 : Int32)), .val (.ref a11), .val (.int ((Int32.toUInt32 (p7 &&& (255 : Int32))).toUInt16.toUInt32.toInt32)), .val (.int ((Int32.toUInt32 ((XT.ushr p7 (8 : Int32)) &&& (255 : Int32))).toUInt16.toUInt32.toInt32)), .unset, .unset, .unset, .unset, .unset, .unset, .unset, .unset, .unset, .unset]) rfl k) ?_
      refine Fin.go (fun _ k => XS.iload X11.here hx rfl (hb hby at_125) rfl k) ?_
      refine Fin.go (fun _ k => XS.iload X11.here hx rfl (hb hby at_127) rfl k) ?_
      show Fin _ p e below s _ _ _ T11 (mkF m 129 #[.val (.int p0), .val (.int p1), .val (.long w0), .second, .val (.long w1), .second, .val (.int p6), .val (.int p7), .val (.int (p1 &&& (3 : Int32))), .val (.int x9), .val (.int (0 : Int32)), .val (.ref a11), .val (.int ((Int32.toUInt32 (p7 &&& (255 : Int32))).toUInt16.toUInt32.toInt32)), .val (.int ((Int32.toUInt32 ((XT.ushr p7 (8 : Int32)) &&& (255 : Int32))).toUInt16.toUInt32.toInt32)), .unset, .unset, .unset, .unset, .unset, .unset, .unset, .unset, .unset, .unset] [(.int p7), (.int ((Int32.toUInt32 (p7 &&& (255 : Int32))).toUInt16.toUInt32.toInt32))])
      refine Fin.go (fun _ k => XS.bipush X11.here hx rfl (hb hby at_129) k) ?_
      refine Fin.go (fun _ k => XT.iushr X11.here hx rfl (hb hby at_131) rfl k) ?_
      refine Fin.go (fun _ k => XS.iconst X11.here hx rfl (hb hby at_132) k) ?_
      refine Fin.go (fun _ k => XS.iand X11.here hx rfl (hb hby at_133) rfl k) ?_
      show Fin _ p e below s _ _ _ T11 (mkF m 134 #[.val (.int p0), .val (.int p1), .val (.long w0), .second, .val (.long w1), .second, .val (.int p6), .val (.int p7), .val (.int (p1 &&& (3 : Int32))), .val (.int x9), .val (.int (0 : Int32)), .val (.ref a11), .val (.int ((Int32.toUInt32 (p7 &&& (255 : Int32))).toUInt16.toUInt32.toInt32)), .val (.int ((Int32.toUInt32 ((XT.ushr p7 (8 : Int32)) &&& (255 : Int32))).toUInt16.toUInt32.toInt32)), .unset, .unset, .unset, .unset, .unset, .unset, .unset, .unset, .unset, .unset] [(.int ((XT.ushr p7 (16 : Int32)) &&& (1 : Int32))), (.int ((Int32.toUInt32 (p7 &&& (255 : Int32))).toUInt16.toUInt32.toInt32))])
      refine Fin.go (fun _ k => XS.iconst X11.here hx rfl (hb hby at_134) k) ?_
      refine Fin.go (fun _ k => XT.ishl X11.here hx rfl (hb hby at_135) rfl k) ?_
      refine Fin.go (fun _ k => XT.ixor X11.here hx rfl (hb hby at_136) rfl k) ?_
      refine Fin.go (fun _ k => XT.i2c X11.here hx rfl (hb hby at_137) rfl k) ?_
      show Fin _ p e below s _ _ _ T11 (mkF m 138 #[.val (.int p0), .val (.int p1), .val (.long w0), .second, .val (.long w1), .second, .val (.int p6), .val (.int p7), .val (.int (p1 &&& (3 : Int32))), .val (.int x9), .val (.int (0 : Int32)), .val (.ref a11), .val (.int ((Int32.toUInt32 (p7 &&& (255 : Int32))).toUInt16.toUInt32.toInt32)), .val (.int ((Int32.toUInt32 ((XT.ushr p7 (8 : Int32)) &&& (255 : Int32))).toUInt16.toUInt32.toInt32)), .unset, .unset, .unset, .unset, .unset, .unset, .unset, .unset, .unset, .unset] [(.int ((Int32.toUInt32 (((Int32.toUInt32 (p7 &&& (255 : Int32))).toUInt16.toUInt32.toInt32) ^^^ (((XT.ushr p7 (16 : Int32)) &&& (1 : Int32)) <<< ((5 : Int32) &&& 31)))).toUInt16.toUInt32.toInt32))])
      refine Fin.go (fun _ k => XS.istore X11.here hx rfl (hb hby at_138) rfl (l' := #[.val (.int p0), .val (.int p1), .val (.long w0), .second, .val (.long w1), .second, .val (.int p6), .val (.int p7), .val (.int (p1 &&& (3 : Int32))), .val (.int x9), .val (.int (0 : Int32)), .val (.ref a11), .val (.int ((Int32.toUInt32 (p7 &&& (255 : Int32))).toUInt16.toUInt32.toInt32)), .val (.int ((Int32.toUInt32 ((XT.ushr p7 (8 : Int32)) &&& (255 : Int32))).toUInt16.toUInt32.toInt32)), .val (.int ((Int32.toUInt32 (((Int32.toUInt32 (p7 &&& (255 : Int32))).toUInt16.toUInt32.toInt32) ^^^ (((XT.ushr p7 (16 : Int32)) &&& (1 : Int32)) <<< ((5 : Int32) &&& 31)))).toUInt16.toUInt32.toInt32)), .unset, .unset, .unset, .unset, .unset, .unset, .unset, .unset, .unset]) rfl k) ?_
      refine Fin.go (fun _ k => XS.iload X11.here hx rfl (hb hby at_140) rfl k) ?_
      refine Fin.go (fun _ k => XS.iload X11.here hx rfl (hb hby at_142) rfl k) ?_
      refine Fin.go (fun _ k => XS.bipush X11.here hx rfl (hb hby at_144) k) ?_
      show Fin _ p e below s _ _ _ T11 (mkF m 146 #[.val (.int p0), .val (.int p1), .val (.long w0), .second, .val (.long w1), .second, .val (.int p6), .val (.int p7), .val (.int (p1 &&& (3 : Int32))), .val (.int x9), .val (.int (0 : Int32)), .val (.ref a11), .val (.int ((Int32.toUInt32 (p7 &&& (255 : Int32))).toUInt16.toUInt32.toInt32)), .val (.int ((Int32.toUInt32 ((XT.ushr p7 (8 : Int32)) &&& (255 : Int32))).toUInt16.toUInt32.toInt32)), .val (.int ((Int32.toUInt32 (((Int32.toUInt32 (p7 &&& (255 : Int32))).toUInt16.toUInt32.toInt32) ^^^ (((XT.ushr p7 (16 : Int32)) &&& (1 : Int32)) <<< ((5 : Int32) &&& 31)))).toUInt16.toUInt32.toInt32)), .unset, .unset, .unset, .unset, .unset, .unset, .unset, .unset, .unset] [(.int (17 : Int32)), (.int p7), (.int ((Int32.toUInt32 ((XT.ushr p7 (8 : Int32)) &&& (255 : Int32))).toUInt16.toUInt32.toInt32))])
      refine Fin.go (fun _ k => XT.iushr X11.here hx rfl (hb hby at_146) rfl k) ?_
      refine Fin.go (fun _ k => XS.iconst X11.here hx rfl (hb hby at_147) k) ?_
      refine Fin.go (fun _ k => XS.iand X11.here hx rfl (hb hby at_148) rfl k) ?_
      refine Fin.go (fun _ k => XS.iconst X11.here hx rfl (hb hby at_149) k) ?_
      show Fin _ p e below s _ _ _ T11 (mkF m 150 #[.val (.int p0), .val (.int p1), .val (.long w0), .second, .val (.long w1), .second, .val (.int p6), .val (.int p7), .val (.int (p1 &&& (3 : Int32))), .val (.int x9), .val (.int (0 : Int32)), .val (.ref a11), .val (.int ((Int32.toUInt32 (p7 &&& (255 : Int32))).toUInt16.toUInt32.toInt32)), .val (.int ((Int32.toUInt32 ((XT.ushr p7 (8 : Int32)) &&& (255 : Int32))).toUInt16.toUInt32.toInt32)), .val (.int ((Int32.toUInt32 (((Int32.toUInt32 (p7 &&& (255 : Int32))).toUInt16.toUInt32.toInt32) ^^^ (((XT.ushr p7 (16 : Int32)) &&& (1 : Int32)) <<< ((5 : Int32) &&& 31)))).toUInt16.toUInt32.toInt32)), .unset, .unset, .unset, .unset, .unset, .unset, .unset, .unset, .unset] [(.int (5 : Int32)), (.int ((XT.ushr p7 (17 : Int32)) &&& (1 : Int32))), (.int ((Int32.toUInt32 ((XT.ushr p7 (8 : Int32)) &&& (255 : Int32))).toUInt16.toUInt32.toInt32))])
      refine Fin.go (fun _ k => XT.ishl X11.here hx rfl (hb hby at_150) rfl k) ?_
      refine Fin.go (fun _ k => XT.ixor X11.here hx rfl (hb hby at_151) rfl k) ?_
      refine Fin.go (fun _ k => XT.i2c X11.here hx rfl (hb hby at_152) rfl k) ?_
      refine Fin.go (fun _ k => XS.istore X11.here hx rfl (hb hby at_153) rfl (l' := #[.val (.int p0), .val (.int p1), .val (.long w0), .second, .val (.long w1), .second, .val (.int p6), .val (.int p7), .val (.int (p1 &&& (3 : Int32))), .val (.int x9), .val (.int (0 : Int32)), .val (.ref a11), .val (.int ((Int32.toUInt32 (p7 &&& (255 : Int32))).toUInt16.toUInt32.toInt32)), .val (.int ((Int32.toUInt32 ((XT.ushr p7 (8 : Int32)) &&& (255 : Int32))).toUInt16.toUInt32.toInt32)), .val (.int ((Int32.toUInt32 (((Int32.toUInt32 (p7 &&& (255 : Int32))).toUInt16.toUInt32.toInt32) ^^^ (((XT.ushr p7 (16 : Int32)) &&& (1 : Int32)) <<< ((5 : Int32) &&& 31)))).toUInt16.toUInt32.toInt32)), .val (.int ((Int32.toUInt32 (((Int32.toUInt32 ((XT.ushr p7 (8 : Int32)) &&& (255 : Int32))).toUInt16.toUInt32.toInt32) ^^^ (((XT.ushr p7 (17 : Int32)) &&& (1 : Int32)) <<< ((5 : Int32) &&& 31)))).toUInt16.toUInt32.toInt32)), .unset, .unset, .unset, .unset, .unset, .unset, .unset, .unset]) rfl k) ?_
      show Fin _ p e below s _ _ _ T11 (mkF m 155 #[.val (.int p0), .val (.int p1), .val (.long w0), .second, .val (.long w1), .second, .val (.int p6), .val (.int p7), .val (.int (p1 &&& (3 : Int32))), .val (.int x9), .val (.int (0 : Int32)), .val (.ref a11), .val (.int ((Int32.toUInt32 (p7 &&& (255 : Int32))).toUInt16.toUInt32.toInt32)), .val (.int ((Int32.toUInt32 ((XT.ushr p7 (8 : Int32)) &&& (255 : Int32))).toUInt16.toUInt32.toInt32)), .val (.int ((Int32.toUInt32 (((Int32.toUInt32 (p7 &&& (255 : Int32))).toUInt16.toUInt32.toInt32) ^^^ (((XT.ushr p7 (16 : Int32)) &&& (1 : Int32)) <<< ((5 : Int32) &&& 31)))).toUInt16.toUInt32.toInt32)), .val (.int ((Int32.toUInt32 (((Int32.toUInt32 ((XT.ushr p7 (8 : Int32)) &&& (255 : Int32))).toUInt16.toUInt32.toInt32) ^^^ (((XT.ushr p7 (17 : Int32)) &&& (1 : Int32)) <<< ((5 : Int32) &&& 31)))).toUInt16.toUInt32.toInt32)), .unset, .unset, .unset, .unset, .unset, .unset, .unset, .unset] [])
      refine Fin.go (fun _ k => XS.iload X11.here hx rfl (hb hby at_155) rfl k) ?_
      refine Fin.go (fun _ k => XS.bipush X11.here hx rfl (hb hby at_157) k) ?_
      refine Fin.go (fun _ k => XT.iushr X11.here hx rfl (hb hby at_159) rfl k) ?_
      refine Fin.go (fun _ k => XS.iconst X11.here hx rfl (hb hby at_160) k) ?_
      show Fin _ p e below s _ _ _ T11 (mkF m 161 #[.val (.int p0), .val (.int p1), .val (.long w0), .second, .val (.long w1), .second, .val (.int p6), .val (.int p7), .val (.int (p1 &&& (3 : Int32))), .val (.int x9), .val (.int (0 : Int32)), .val (.ref a11), .val (.int ((Int32.toUInt32 (p7 &&& (255 : Int32))).toUInt16.toUInt32.toInt32)), .val (.int ((Int32.toUInt32 ((XT.ushr p7 (8 : Int32)) &&& (255 : Int32))).toUInt16.toUInt32.toInt32)), .val (.int ((Int32.toUInt32 (((Int32.toUInt32 (p7 &&& (255 : Int32))).toUInt16.toUInt32.toInt32) ^^^ (((XT.ushr p7 (16 : Int32)) &&& (1 : Int32)) <<< ((5 : Int32) &&& 31)))).toUInt16.toUInt32.toInt32)), .val (.int ((Int32.toUInt32 (((Int32.toUInt32 ((XT.ushr p7 (8 : Int32)) &&& (255 : Int32))).toUInt16.toUInt32.toInt32) ^^^ (((XT.ushr p7 (17 : Int32)) &&& (1 : Int32)) <<< ((5 : Int32) &&& 31)))).toUInt16.toUInt32.toInt32)), .unset, .unset, .unset, .unset, .unset, .unset, .unset, .unset] [(.int (3 : Int32)), (.int (XT.ushr p7 (18 : Int32)))])
      refine Fin.go (fun _ k => XS.iand X11.here hx rfl (hb hby at_161) rfl k) ?_
      refine Fin.go (fun _ k => XS.iconst X11.here hx rfl (hb hby at_162) k) ?_
      refine Fin.go (fun _ k => iremM X11 hx rfl (hb hby at_163) rfl (by decide) k) ?_
      refine Fin.go (fun _ k => XS.istore X11.here hx rfl (hb hby at_164) rfl (l' := #[.val (.int p0), .val (.int p1), .val (.long w0), .second, .val (.long w1), .second, .val (.int p6), .val (.int p7), .val (.int (p1 &&& (3 : Int32))), .val (.int x9), .val (.int (0 : Int32)), .val (.ref a11), .val (.int ((Int32.toUInt32 (p7 &&& (255 : Int32))).toUInt16.toUInt32.toInt32)), .val (.int ((Int32.toUInt32 ((XT.ushr p7 (8 : Int32)) &&& (255 : Int32))).toUInt16.toUInt32.toInt32)), .val (.int ((Int32.toUInt32 (((Int32.toUInt32 (p7 &&& (255 : Int32))).toUInt16.toUInt32.toInt32) ^^^ (((XT.ushr p7 (16 : Int32)) &&& (1 : Int32)) <<< ((5 : Int32) &&& 31)))).toUInt16.toUInt32.toInt32)), .val (.int ((Int32.toUInt32 (((Int32.toUInt32 ((XT.ushr p7 (8 : Int32)) &&& (255 : Int32))).toUInt16.toUInt32.toInt32) ^^^ (((XT.ushr p7 (17 : Int32)) &&& (1 : Int32)) <<< ((5 : Int32) &&& 31)))).toUInt16.toUInt32.toInt32)), .val (.int (((XT.ushr p7 (18 : Int32)) &&& (3 : Int32)) % (3 : Int32))), .unset, .unset, .unset, .unset, .unset, .unset, .unset]) rfl k) ?_
      show Fin _ p e below s _ _ _ T11 (mkF m 166 #[.val (.int p0), .val (.int p1), .val (.long w0), .second, .val (.long w1), .second, .val (.int p6), .val (.int p7), .val (.int (p1 &&& (3 : Int32))), .val (.int x9), .val (.int (0 : Int32)), .val (.ref a11), .val (.int ((Int32.toUInt32 (p7 &&& (255 : Int32))).toUInt16.toUInt32.toInt32)), .val (.int ((Int32.toUInt32 ((XT.ushr p7 (8 : Int32)) &&& (255 : Int32))).toUInt16.toUInt32.toInt32)), .val (.int ((Int32.toUInt32 (((Int32.toUInt32 (p7 &&& (255 : Int32))).toUInt16.toUInt32.toInt32) ^^^ (((XT.ushr p7 (16 : Int32)) &&& (1 : Int32)) <<< ((5 : Int32) &&& 31)))).toUInt16.toUInt32.toInt32)), .val (.int ((Int32.toUInt32 (((Int32.toUInt32 ((XT.ushr p7 (8 : Int32)) &&& (255 : Int32))).toUInt16.toUInt32.toInt32) ^^^ (((XT.ushr p7 (17 : Int32)) &&& (1 : Int32)) <<< ((5 : Int32) &&& 31)))).toUInt16.toUInt32.toInt32)), .val (.int (((XT.ushr p7 (18 : Int32)) &&& (3 : Int32)) % (3 : Int32))), .unset, .unset, .unset, .unset, .unset, .unset, .unset] [])
      refine Fin.go (fun _ k => XS.iload X11.here hx rfl (hb hby at_166) rfl k) ?_
      refine Fin.go (fun _ k => XS.bipush X11.here hx rfl (hb hby at_168) k) ?_
      refine Fin.go (fun _ k => XT.iushr X11.here hx rfl (hb hby at_170) rfl k) ?_
      refine Fin.go (fun _ k => XS.iconst X11.here hx rfl (hb hby at_171) k) ?_
      show Fin _ p e below s _ _ _ T11 (mkF m 172 #[.val (.int p0), .val (.int p1), .val (.long w0), .second, .val (.long w1), .second, .val (.int p6), .val (.int p7), .val (.int (p1 &&& (3 : Int32))), .val (.int x9), .val (.int (0 : Int32)), .val (.ref a11), .val (.int ((Int32.toUInt32 (p7 &&& (255 : Int32))).toUInt16.toUInt32.toInt32)), .val (.int ((Int32.toUInt32 ((XT.ushr p7 (8 : Int32)) &&& (255 : Int32))).toUInt16.toUInt32.toInt32)), .val (.int ((Int32.toUInt32 (((Int32.toUInt32 (p7 &&& (255 : Int32))).toUInt16.toUInt32.toInt32) ^^^ (((XT.ushr p7 (16 : Int32)) &&& (1 : Int32)) <<< ((5 : Int32) &&& 31)))).toUInt16.toUInt32.toInt32)), .val (.int ((Int32.toUInt32 (((Int32.toUInt32 ((XT.ushr p7 (8 : Int32)) &&& (255 : Int32))).toUInt16.toUInt32.toInt32) ^^^ (((XT.ushr p7 (17 : Int32)) &&& (1 : Int32)) <<< ((5 : Int32) &&& 31)))).toUInt16.toUInt32.toInt32)), .val (.int (((XT.ushr p7 (18 : Int32)) &&& (3 : Int32)) % (3 : Int32))), .unset, .unset, .unset, .unset, .unset, .unset, .unset] [(.int (3 : Int32)), (.int (XT.ushr p7 (20 : Int32)))])
      refine Fin.go (fun _ k => XS.iand X11.here hx rfl (hb hby at_172) rfl k) ?_
      refine Fin.go (fun _ k => XS.iconst X11.here hx rfl (hb hby at_173) k) ?_
      refine Fin.go (fun _ k => iremM X11 hx rfl (hb hby at_174) rfl (by decide) k) ?_
      refine Fin.go (fun _ k => XS.istore X11.here hx rfl (hb hby at_175) rfl (l' := #[.val (.int p0), .val (.int p1), .val (.long w0), .second, .val (.long w1), .second, .val (.int p6), .val (.int p7), .val (.int (p1 &&& (3 : Int32))), .val (.int x9), .val (.int (0 : Int32)), .val (.ref a11), .val (.int ((Int32.toUInt32 (p7 &&& (255 : Int32))).toUInt16.toUInt32.toInt32)), .val (.int ((Int32.toUInt32 ((XT.ushr p7 (8 : Int32)) &&& (255 : Int32))).toUInt16.toUInt32.toInt32)), .val (.int ((Int32.toUInt32 (((Int32.toUInt32 (p7 &&& (255 : Int32))).toUInt16.toUInt32.toInt32) ^^^ (((XT.ushr p7 (16 : Int32)) &&& (1 : Int32)) <<< ((5 : Int32) &&& 31)))).toUInt16.toUInt32.toInt32)), .val (.int ((Int32.toUInt32 (((Int32.toUInt32 ((XT.ushr p7 (8 : Int32)) &&& (255 : Int32))).toUInt16.toUInt32.toInt32) ^^^ (((XT.ushr p7 (17 : Int32)) &&& (1 : Int32)) <<< ((5 : Int32) &&& 31)))).toUInt16.toUInt32.toInt32)), .val (.int (((XT.ushr p7 (18 : Int32)) &&& (3 : Int32)) % (3 : Int32))), .val (.int (((XT.ushr p7 (20 : Int32)) &&& (3 : Int32)) % (3 : Int32))), .unset, .unset, .unset, .unset, .unset, .unset]) rfl k) ?_
      show Fin _ p e below s _ _ _ T11 (mkF m 177 #[.val (.int p0), .val (.int p1), .val (.long w0), .second, .val (.long w1), .second, .val (.int p6), .val (.int p7), .val (.int (p1 &&& (3 : Int32))), .val (.int x9), .val (.int (0 : Int32)), .val (.ref a11), .val (.int ((Int32.toUInt32 (p7 &&& (255 : Int32))).toUInt16.toUInt32.toInt32)), .val (.int ((Int32.toUInt32 ((XT.ushr p7 (8 : Int32)) &&& (255 : Int32))).toUInt16.toUInt32.toInt32)), .val (.int ((Int32.toUInt32 (((Int32.toUInt32 (p7 &&& (255 : Int32))).toUInt16.toUInt32.toInt32) ^^^ (((XT.ushr p7 (16 : Int32)) &&& (1 : Int32)) <<< ((5 : Int32) &&& 31)))).toUInt16.toUInt32.toInt32)), .val (.int ((Int32.toUInt32 (((Int32.toUInt32 ((XT.ushr p7 (8 : Int32)) &&& (255 : Int32))).toUInt16.toUInt32.toInt32) ^^^ (((XT.ushr p7 (17 : Int32)) &&& (1 : Int32)) <<< ((5 : Int32) &&& 31)))).toUInt16.toUInt32.toInt32)), .val (.int (((XT.ushr p7 (18 : Int32)) &&& (3 : Int32)) % (3 : Int32))), .val (.int (((XT.ushr p7 (20 : Int32)) &&& (3 : Int32)) % (3 : Int32))), .unset, .unset, .unset, .unset, .unset, .unset] [])
      have rA0 := r255_and p7
      have rA1 := r255_and (XT.ushr p7 (8 : Int32))
      have rB0 := r255_xor rA0 (XT.ushr p7 (16 : Int32))
      have rB1 := r255_xor rA1 (XT.ushr p7 (17 : Int32))
      have hLu := mod3 (XT.ushr p7 (18 : Int32))
      have hLg := mod3 (XT.ushr p7 (20 : Int32))
      generalize hhB0 : ((Int32.toUInt32 (((Int32.toUInt32 (p7 &&& (255 : Int32))).toUInt16.toUInt32.toInt32) ^^^ (((XT.ushr p7 (16 : Int32)) &&& (1 : Int32)) <<< ((5 : Int32) &&& 31)))).toUInt16.toUInt32.toInt32) = B0 at rB0 ⊢
      generalize hhB1 : ((Int32.toUInt32 (((Int32.toUInt32 ((XT.ushr p7 (8 : Int32)) &&& (255 : Int32))).toUInt16.toUInt32.toInt32) ^^^ (((XT.ushr p7 (17 : Int32)) &&& (1 : Int32)) <<< ((5 : Int32) &&& 31)))).toUInt16.toUInt32.toInt32) = B1 at rB1 ⊢
      generalize hhA0 : ((Int32.toUInt32 (p7 &&& (255 : Int32))).toUInt16.toUInt32.toInt32) = A0 at rA0 ⊢
      generalize hhA1 : ((Int32.toUInt32 ((XT.ushr p7 (8 : Int32)) &&& (255 : Int32))).toUInt16.toUInt32.toInt32) = A1 at rA1 ⊢
      generalize hhLu : (((XT.ushr p7 (18 : Int32)) &&& (3 : Int32)) % (3 : Int32)) = Lu at hLu ⊢
      generalize hhLg : (((XT.ushr p7 (20 : Int32)) &&& (3 : Int32)) % (3 : Int32)) = Lg at hLg ⊢
      show Fin _ p e below s _ _ _ T11 (mkF m 177 #[.val (.int p0), .val (.int p1), .val (.long w0), .second, .val (.long w1), .second, .val (.int p6), .val (.int p7), .val (.int (p1 &&& (3 : Int32))), .val (.int x9), .val (.int (0 : Int32)), .val (.ref a11), .val (.int A0), .val (.int A1), .val (.int B0), .val (.int B1), .val (.int Lu), .val (.int Lg), .unset, .unset, .unset, .unset, .unset, .unset] [])
      refine Fin.go (fun _ k => XS.iload X11.here hx rfl (hb hby at_177) rfl k) ?_
      refine Fin.go (fun _ k => XS.iload X11.here hx rfl (hb hby at_179) rfl k) ?_
      refine Fin.go (fun _ k => XS.iload X11.here hx rfl (hb hby at_181) rfl k) ?_
      obtain ⟨v12, T12, L12, X12, hS12, hZ12, hown12, RC12, q12, st12⟩ := callStH X11 hx hZ (y := (⟨"com/example/grantwell/grantwell/engine/PrincipalCountsPinLaw", "str", "(ICC)Ljava/lang/String;"⟩ : MethodName)) hown (hw _ w_2) (hw _ w_3) (hw _ w_4) (hw _ w_5) (by decide) (W := 0) (rmS l Z a0 hw n0 h11 O11 Lu A0 A1 rA0 rA1 cs S_cs hcs) e11 hS hk11 hEL RR11.1 (by decide) (by decide) (by decide) (by decide) (g := (mkF m 183 #[.val (.int p0), .val (.int p1), .val (.long w0), .second, .val (.long w1), .second, .val (.int p6), .val (.int p7), .val (.int (p1 &&& (3 : Int32))), .val (.int x9), .val (.int (0 : Int32)), .val (.ref a11), .val (.int A0), .val (.int A1), .val (.int B0), .val (.int B1), .val (.int Lu), .val (.int Lg), .unset, .unset, .unset, .unset, .unset, .unset] [(.int A1), (.int A0), (.int Lu)])) rfl (by rw [hml]; rfl) (argsL := [(.int Lu), (.int A0), (.int A1)]) (rest := []) (lenOf pd_oICCcLjava_lang_String_ rfl) rfl (by show 2 * 0 + _ ≤ _; exact Nat.le_of_eq rfl) (hb hby at_183)
      obtain ⟨a12, rfl, Nq12, Kq12, Z12, zd12⟩ := q12
      have N12 := Fr.app N0 Nq12
      have O12 := O11.keep Kq12 all0
      have RR12 := RR11.trans RC12
      refine Fin.go st12 ?_
      show Fin _ p e below s _ _ _ T12 (mkF m 186 #[.val (.int p0), .val (.int p1), .val (.long w0), .second, .val (.long w1), .second, .val (.int p6), .val (.int p7), .val (.int (p1 &&& (3 : Int32))), .val (.int x9), .val (.int (0 : Int32)), .val (.ref a11), .val (.int A0), .val (.int A1), .val (.int B0), .val (.int B1), .val (.int Lu), .val (.int Lg), .unset, .unset, .unset, .unset, .unset, .unset] [(.ref a12)])
      have nzd12 : n0 ≤ a12 := Nat.le_trans (by have := O11.1; have := O11.2.1; omega) zd12
      refine Fin.go (fun _ k => XS.astore X12.here hx rfl (hb hby at_186) rfl rfl (l' := #[.val (.int p0), .val (.int p1), .val (.long w0), .second, .val (.long w1), .second, .val (.int p6), .val (.int p7), .val (.int (p1 &&& (3 : Int32))), .val (.int x9), .val (.int (0 : Int32)), .val (.ref a11), .val (.int A0), .val (.int A1), .val (.int B0), .val (.int B1), .val (.int Lu), .val (.int Lg), .val (.ref a12), .unset, .unset, .unset, .unset, .unset]) rfl k) ?_
      refine Fin.go (fun _ k => XS.iload X12.here hx rfl (hb hby at_188) rfl k) ?_
      refine Fin.go (fun _ k => XS.iload X12.here hx rfl (hb hby at_190) rfl k) ?_
      refine Fin.go (fun _ k => XS.iload X12.here hx rfl (hb hby at_192) rfl k) ?_
      show Fin _ p e below s _ _ _ T12 (mkF m 194 #[.val (.int p0), .val (.int p1), .val (.long w0), .second, .val (.long w1), .second, .val (.int p6), .val (.int p7), .val (.int (p1 &&& (3 : Int32))), .val (.int x9), .val (.int (0 : Int32)), .val (.ref a11), .val (.int A0), .val (.int A1), .val (.int B0), .val (.int B1), .val (.int Lu), .val (.int Lg), .val (.ref a12), .unset, .unset, .unset, .unset, .unset] [(.int B1), (.int B0), (.int Lg)])
      obtain ⟨v13, T13, L13, X13, hS13, hZ13, hown13, RC13, q13, st13⟩ := callStH X12 hx hZ12 (y := (⟨"com/example/grantwell/grantwell/engine/PrincipalCountsPinLaw", "str", "(ICC)Ljava/lang/String;"⟩ : MethodName)) hown12 (hw _ w_2) (hw _ w_3) (hw _ w_4) (hw _ w_5) (by decide) (W := 0) (rmS l Z a0 hw n0 T12.heap O12 Lg B0 B1 rB0 rB1 cs S_cs hcs) (rfl : T12.heap = T12.heap) hS12 (Nat.le_refl T12.heap.size) hEL RR12.1 (by decide) (by decide) (by decide) (by decide) (g := (mkF m 194 #[.val (.int p0), .val (.int p1), .val (.long w0), .second, .val (.long w1), .second, .val (.int p6), .val (.int p7), .val (.int (p1 &&& (3 : Int32))), .val (.int x9), .val (.int (0 : Int32)), .val (.ref a11), .val (.int A0), .val (.int A1), .val (.int B0), .val (.int B1), .val (.int Lu), .val (.int Lg), .val (.ref a12), .unset, .unset, .unset, .unset, .unset] [(.int B1), (.int B0), (.int Lg)])) rfl (by rw [hml]; rfl) (argsL := [(.int Lg), (.int B0), (.int B1)]) (rest := []) (lenOf pd_oICCcLjava_lang_String_ rfl) rfl (by show 2 * 0 + _ ≤ _; exact Nat.le_of_eq rfl) (hb hby at_194)
      obtain ⟨a13, rfl, Nq13, Kq13, Z13, zd13⟩ := q13
      have N13 := Fr.app N12 Nq13
      have O13 := O12.keep Kq13 all0
      have RR13 := RR12.trans RC13
      refine Fin.go st13 ?_
      show Fin _ p e below s _ _ _ T13 (mkF m 197 #[.val (.int p0), .val (.int p1), .val (.long w0), .second, .val (.long w1), .second, .val (.int p6), .val (.int p7), .val (.int (p1 &&& (3 : Int32))), .val (.int x9), .val (.int (0 : Int32)), .val (.ref a11), .val (.int A0), .val (.int A1), .val (.int B0), .val (.int B1), .val (.int Lu), .val (.int Lg), .val (.ref a12), .unset, .unset, .unset, .unset, .unset] [(.ref a13)])
      have nzd13 : n0 ≤ a13 := Nat.le_trans (by have := O12.1; have := O12.2.1; omega) zd13
      refine Fin.go (fun _ k => XS.astore X13.here hx rfl (hb hby at_197) rfl rfl (l' := #[.val (.int p0), .val (.int p1), .val (.long w0), .second, .val (.long w1), .second, .val (.int p6), .val (.int p7), .val (.int (p1 &&& (3 : Int32))), .val (.int x9), .val (.int (0 : Int32)), .val (.ref a11), .val (.int A0), .val (.int A1), .val (.int B0), .val (.int B1), .val (.int Lu), .val (.int Lg), .val (.ref a12), .val (.ref a13), .unset, .unset, .unset, .unset]) rfl k) ?_
      obtain ⟨T14, h14, X14, e14, E14, A14, D14, U14, st14⟩ := newO X13 hx hZ13 hown13 (hw _ w_28) (hw _ w_29) (hw _ w_30) (rfl : T13.heap = T13.heap) (g := (mkF m 199 #[.val (.int p0), .val (.int p1), .val (.long w0), .second, .val (.long w1), .second, .val (.int p6), .val (.int p7), .val (.int (p1 &&& (3 : Int32))), .val (.int x9), .val (.int (0 : Int32)), .val (.ref a11), .val (.int A0), .val (.int A1), .val (.int B0), .val (.int B1), .val (.int Lu), .val (.int Lg), .val (.ref a12), .val (.ref a13), .unset, .unset, .unset, .unset] [])) rfl (hb hby at_199) (by decide) (by decide)
      obtain ⟨a14, g14⟩ : ∃ z, z = T13.heap.size := ⟨_, rfl⟩
      rw [← g14] at A14 D14 U14 st14
      refine Fin.go st14 ?_
      have O14 := O13.ext E14
      have hk14 := Nat.le_trans (Nat.le_refl T13.heap.size) E14.1
      have RR14 := RR13.trans (CHr.ext E14 RR13.1)
      have n14 : n0 ≤ a14 := by have := O13.2.1; have := O13.1; omega
      have F14_grantee : Fld Z h14 a14 "com/example/grantwell/grantwell/catalog/Grant" "grantee" "Ljava/lang/String;" .null := D14 (Or.inr (hw _ w_67)) (ty := (.object "java/lang/String")) (by decide)
      have F14_grantor : Fld Z h14 a14 "com/example/grantwell/grantwell/catalog/Grant" "grantor" "Ljava/lang/String;" .null := D14 (Or.inr (hw _ w_69)) (ty := (.object "java/lang/String")) (by decide)
      have F14_action : Fld Z h14 a14 "com/example/grantwell/grantwell/catalog/Grant" "action" "Lcom/example/grantwell/grantwell/catalog/Action;" .null := D14 (Or.inr (hw _ w_71)) (ty := (.object "com/example/grantwell/grantwell/catalog/Action")) (by decide)
      have F14_grantOption : Fld Z h14 a14 "com/example/grantwell/grantwell/catalog/Grant" "grantOption" "Z" (.int (0 : Int32)) := D14 (Or.inr (hw _ w_73)) (ty := .boolean) (by decide)
      show Fin _ p e below s _ _ _ T14 (mkF m 202 #[.val (.int p0), .val (.int p1), .val (.long w0), .second, .val (.long w1), .second, .val (.int p6), .val (.int p7), .val (.int (p1 &&& (3 : Int32))), .val (.int x9), .val (.int (0 : Int32)), .val (.ref a11), .val (.int A0), .val (.int A1), .val (.int B0), .val (.int B1), .val (.int Lu), .val (.int Lg), .val (.ref a12), .val (.ref a13), .unset, .unset, .unset, .unset] [(.ref a14)])
      refine Fin.go (fun _ k => XS.dup X14.here hx rfl (hb hby at_202) rfl rfl k) ?_
      refine Fin.go (fun _ k => XS.aload X14.here hx rfl (hb hby at_203) rfl rfl k) ?_
      refine Fin.go (fun _ k => XS.aload X14.here hx rfl (hb hby at_205) rfl rfl k) ?_
      obtain ⟨T15, X15, e15, st15⟩ := getS2 X14 hx hZ13 hown13 (host := "") (Or.inl (hw _ w_31)) Via.refl e14 (S_aS.ext O14.2) (g := (mkF m 207 #[.val (.int p0), .val (.int p1), .val (.long w0), .second, .val (.long w1), .second, .val (.int p6), .val (.int p7), .val (.int (p1 &&& (3 : Int32))), .val (.int x9), .val (.int (0 : Int32)), .val (.ref a11), .val (.int A0), .val (.int A1), .val (.int B0), .val (.int B1), .val (.int Lu), .val (.int Lg), .val (.ref a12), .val (.ref a13), .unset, .unset, .unset, .unset] [(.ref a12), (.ref a13), (.ref a14), (.ref a14)])) rfl (hb hby at_207)
      refine Fin.go st15 ?_
      show Fin _ p e below s _ _ _ T15 (mkF m 210 #[.val (.int p0), .val (.int p1), .val (.long w0), .second, .val (.long w1), .second, .val (.int p6), .val (.int p7), .val (.int (p1 &&& (3 : Int32))), .val (.int x9), .val (.int (0 : Int32)), .val (.ref a11), .val (.int A0), .val (.int A1), .val (.int B0), .val (.int B1), .val (.int Lu), .val (.int Lg), .val (.ref a12), .val (.ref a13), .unset, .unset, .unset, .unset] [(.ref aS), (.ref a12), (.ref a13), (.ref a14), (.ref a14)])
      obtain ⟨v16, T16, L16, X16, hS16, hZ16, hown16, RC16, q16, st16⟩ := callStH X15 hx hZ13 (y := (⟨"com/example/grantwell/grantwell/catalog/Action", "onTable", "(Lcom/example/grantwell/grantwell/catalog/Privilege;)Lcom/example/grantwell/grantwell/catalog/Action;"⟩ : MethodName)) hown13 (hw _ w_34) (hw _ w_35) (hw _ w_36) (hw _ w_37) (by decide) (W := 4) (rmOT l Z a0 hw n0 h14 O14 aS) e15 hS13 hk14 hEL RR14.1 (by decide) (by decide) (by decide) (by decide) (g := (mkF m 210 #[.val (.int p0), .val (.int p1), .val (.long w0), .second, .val (.long w1), .second, .val (.int p6), .val (.int p7), .val (.int (p1 &&& (3 : Int32))), .val (.int x9), .val (.int (0 : Int32)), .val (.ref a11), .val (.int A0), .val (.int A1), .val (.int B0), .val (.int B1), .val (.int Lu), .val (.int Lg), .val (.ref a12), .val (.ref a13), .unset, .unset, .unset, .unset] [(.ref aS), (.ref a12), (.ref a13), (.ref a14), (.ref a14)])) rfl (by rw [hml]; rfl) (argsL := [(.ref aS)]) (rest := [(.ref a12), (.ref a13), (.ref a14), (.ref a14)]) (lenOf pd_oLcom_example_grantwell_grantwell_catalog_Privilege_cLcom_example_grantwell_grantwell_catalog_Action_ rfl) rfl (by show 2 * 0 + _ ≤ _; exact Nat.le_of_eq rfl) (hb hby at_210)
      obtain ⟨o16, rfl, Nq16, Kq16⟩ := q16
      have N16 := Fr.app N13 Nq16
      have O16 := O14.keep Kq16 all0
      have RR16 := RR14.trans RC16
      refine Fin.go st16 ?_
      have V16_a11 := ((((V11.keep Kq12 nin0).keep Kq13 nin0).ext E14).keep Kq16 nin0)
      show Fin _ p e below s _ _ _ T16 (mkF m 213 #[.val (.int p0), .val (.int p1), .val (.long w0), .second, .val (.long w1), .second, .val (.int p6), .val (.int p7), .val (.int (p1 &&& (3 : Int32))), .val (.int x9), .val (.int (0 : Int32)), .val (.ref a11), .val (.int A0), .val (.int A1), .val (.int B0), .val (.int B1), .val (.int Lu), .val (.int Lg), .val (.ref a12), .val (.ref a13), .unset, .unset, .unset, .unset] [(.ref o16), (.ref a12), (.ref a13), (.ref a14), (.ref a14)])
      have tl : ∀ (z : Int32) (hz : z = 0 ∨ z = 1), Fin (EH Z EL) p e below s (fun v h L => v = some (.int 1) ∧ Fr n0 L) room_1.cells room_1.slots T16 (mkF m 224 #[.val (.int p0), .val (.int p1), .val (.long w0), .second, .val (.long w1), .second, .val (.int p6), .val (.int p7), .val (.int (p1 &&& (3 : Int32))), .val (.int x9), .val (.int (0 : Int32)), .val (.ref a11), .val (.int A0), .val (.int A1), .val (.int B0), .val (.int B1), .val (.int Lu), .val (.int Lg), .val (.ref a12), .val (.ref a13), .unset, .unset, .unset, .unset] [(.int z), (.ref o16), (.ref a12), (.ref a13), (.ref a14), (.ref a14)]) := by
        intro z hz
        obtain ⟨v17, T17, L17, X17, hS17, hZ17, hown17, RC17, q17, st17⟩ := callCtH X16 hx hZ16 (y := (⟨"com/example/grantwell/grantwell/catalog/Grant", "<init>", "(Ljava/lang/String;Ljava/lang/String;Lcom/example/grantwell/grantwell/catalog/Action;Z)V"⟩ : MethodName)) rfl hown16 (hw _ w_58) (hw _ w_59) (hw _ w_30) (hw _ w_60) (by decide) (W := 1) (rmGr l Z a0 hw n0 T16.heap O16 a14 a13 a12 o16 z hz (A14.keep Kq16) (F14_grantee.keep Kq16 nin0) (F14_grantor.keep Kq16 nin0) (F14_action.keep Kq16 nin0) (F14_grantOption.keep Kq16 nin0) n14) (rfl : T16.heap = T16.heap) hS16 (Nat.le_refl T16.heap.size) hEL RR16.1 (by decide) (by decide) (by decide) (by decide) (g := (mkF m 224 #[.val (.int p0), .val (.int p1), .val (.long w0), .second, .val (.long w1), .second, .val (.int p6), .val (.int p7), .val (.int (p1 &&& (3 : Int32))), .val (.int x9), .val (.int (0 : Int32)), .val (.ref a11), .val (.int A0), .val (.int A1), .val (.int B0), .val (.int B1), .val (.int Lu), .val (.int Lg), .val (.ref a12), .val (.ref a13), .unset, .unset, .unset, .unset] [(.int z), (.ref o16), (.ref a12), (.ref a13), (.ref a14), (.ref a14)])) rfl (by rw [hml]; rfl) (a := a14) (argsL := [(.ref a13), (.ref a12), (.ref o16), (.int z)]) (rest := [(.ref a14)]) (lenOf pd_oLjava_lang_String_Ljava_lang_String_Lcom_example_grantwell_grantwell_catalog_Action_ZcV rfl) rfl (by show 2 * 0 + _ ≤ _; exact Nat.le_of_eq rfl) (hb hby at_224)
        obtain ⟨rfl, Nq17, Kq17, A17, F17⟩ := q17
        have N17 := Fr.app N16 Nq17
        have O17 := O16.keep Kq17 (allS n14 all0)
        have RR17 := RR16.trans RC17
        refine Fin.go st17 ?_
        have V17_a11 := (V16_a11.keep Kq17 (ninS (Nat.ne_of_lt (Nat.lt_of_lt_of_eq ((V11.keep Kq12 nin0).keep Kq13 nin0).lt g14.symm)) nin0))
        have Z17_a12 := ((((Z12.keep Kq13 all0).ext E14).keep Kq16 all0).keep Kq17 (allS (Nat.le_trans (Z12.keep Kq13 all0).le (Nat.le_of_eq g14.symm)) all0))
        have Z17_a13 := (((Z13.ext E14).keep Kq16 all0).keep Kq17 (allS (Nat.le_trans Z13.le (Nat.le_of_eq g14.symm)) all0))
        show Fin _ p e below s _ _ _ T17 (mkF m 227 #[.val (.int p0), .val (.int p1), .val (.long w0), .second, .val (.long w1), .second, .val (.int p6), .val (.int p7), .val (.int (p1 &&& (3 : Int32))), .val (.int x9), .val (.int (0 : Int32)), .val (.ref a11), .val (.int A0), .val (.int A1), .val (.int B0), .val (.int B1), .val (.int Lu), .val (.int Lg), .val (.ref a12), .val (.ref a13), .unset, .unset, .unset, .unset] [(.ref a14)])
        refine Fin.go (fun _ k => XS.astore X17.here hx rfl (hb hby at_227) rfl rfl (l' := #[.val (.int p0), .val (.int p1), .val (.long w0), .second, .val (.long w1), .second, .val (.int p6), .val (.int p7), .val (.int (p1 &&& (3 : Int32))), .val (.int x9), .val (.int (0 : Int32)), .val (.ref a11), .val (.int A0), .val (.int A1), .val (.int B0), .val (.int B1), .val (.int Lu), .val (.int Lg), .val (.ref a12), .val (.ref a13), .val (.ref a14), .unset, .unset, .unset]) rfl k) ?_
        obtain ⟨T18, h18, X18, e18, E18, A18, D18, U18, st18⟩ := newO X17 hx hZ17 hown17 (hw _ w_74) (hw _ w_75) (hw _ w_76) (rfl : T17.heap = T17.heap) (g := (mkF m 229 #[.val (.int p0), .val (.int p1), .val (.long w0), .second, .val (.long w1), .second, .val (.int p6), .val (.int p7), .val (.int (p1 &&& (3 : Int32))), .val (.int x9), .val (.int (0 : Int32)), .val (.ref a11), .val (.int A0), .val (.int A1), .val (.int B0), .val (.int B1), .val (.int Lu), .val (.int Lg), .val (.ref a12), .val (.ref a13), .val (.ref a14), .unset, .unset, .unset] [])) rfl (hb hby at_229) (by decide) (by decide)
        obtain ⟨a18, g18⟩ : ∃ z, z = T17.heap.size := ⟨_, rfl⟩
        rw [← g18] at A18 D18 U18 st18
        refine Fin.go st18 ?_
        have O18 := O17.ext E18
        have hk18 := Nat.le_trans (Nat.le_refl T17.heap.size) E18.1
        have RR18 := RR17.trans (CHr.ext E18 RR17.1)
        have n18 : n0 ≤ a18 := by have := O17.2.1; have := O17.1; omega
        have F18_user : Fld Z h18 a18 "com/example/grantwell/grantwell/engine/Principal" "user" "Ljava/lang/String;" .null := D18 (Or.inr (hw _ w_82)) (ty := (.object "java/lang/String")) (by decide)
        have F18_roles : Fld Z h18 a18 "com/example/grantwell/grantwell/engine/Principal" "roles" "Ljava/util/Set;" .null := D18 (Or.inr (hw _ w_84)) (ty := (.object "java/util/Set")) (by decide)
        have F18_numbered : Fld Z h18 a18 "com/example/grantwell/grantwell/engine/Principal" "numbered" "[J" .null := D18 (Or.inr (hw _ w_86)) (ty := (.array .long)) (by decide)
        show Fin _ p e below s _ _ _ T18 (mkF m 232 #[.val (.int p0), .val (.int p1), .val (.long w0), .second, .val (.long w1), .second, .val (.int p6), .val (.int p7), .val (.int (p1 &&& (3 : Int32))), .val (.int x9), .val (.int (0 : Int32)), .val (.ref a11), .val (.int A0), .val (.int A1), .val (.int B0), .val (.int B1), .val (.int Lu), .val (.int Lg), .val (.ref a12), .val (.ref a13), .val (.ref a14), .unset, .unset, .unset] [(.ref a18)])
        refine Fin.go (fun _ k => XS.dup X18.here hx rfl (hb hby at_232) rfl rfl k) ?_
        refine Fin.go (fun _ k => XS.aload X18.here hx rfl (hb hby at_233) rfl rfl k) ?_
        refine Fin.go (fun _ k => XS.aconstNull X18.here hx rfl (hb hby at_235) k) ?_
        refine Fin.go (fun _ k => XS.aload X18.here hx rfl (hb hby at_236) rfl rfl k) ?_
        show Fin _ p e below s _ _ _ T18 (mkF m 238 #[.val (.int p0), .val (.int p1), .val (.long w0), .second, .val (.long w1), .second, .val (.int p6), .val (.int p7), .val (.int (p1 &&& (3 : Int32))), .val (.int x9), .val (.int (0 : Int32)), .val (.ref a11), .val (.int A0), .val (.int A1), .val (.int B0), .val (.int B1), .val (.int Lu), .val (.int Lg), .val (.ref a12), .val (.ref a13), .val (.ref a14), .unset, .unset, .unset] [(.ref a11), .null, (.ref a12), (.ref a18), (.ref a18)])
        obtain ⟨v19, T19, L19, X19, q19, st19⟩ := callCt X18 hx hZ17 (y := (⟨"com/example/grantwell/grantwell/engine/Principal", "<init>", "(Ljava/lang/String;Ljava/util/Set;[J)V"⟩ : MethodName)) rfl hown17 (hw _ w_77) (hw _ w_78) (hw _ w_76) (hw _ w_79) (by decide) (W := 1) (rmPr l Z a0 hw n0 h18 O18 a18 a12 a11 A18 F18_user F18_roles F18_numbered n18) e18 (by decide) (by decide) (by decide) (by decide) (g := (mkF m 238 #[.val (.int p0), .val (.int p1), .val (.long w0), .second, .val (.long w1), .second, .val (.int p6), .val (.int p7), .val (.int (p1 &&& (3 : Int32))), .val (.int x9), .val (.int (0 : Int32)), .val (.ref a11), .val (.int A0), .val (.int A1), .val (.int B0), .val (.int B1), .val (.int Lu), .val (.int Lg), .val (.ref a12), .val (.ref a13), .val (.ref a14), .unset, .unset, .unset] [(.ref a11), .null, (.ref a12), (.ref a18), (.ref a18)])) rfl (by rw [hml]; rfl) (a := a18) (argsL := [(.ref a12), .null, (.ref a11)]) (rest := [(.ref a18)]) (lenOf pd_oLjava_lang_String_Ljava_util_Set_AJcV rfl) rfl (by show 2 * 0 + _ ≤ _; exact Nat.le_of_eq rfl) (hb hby at_238)
        obtain ⟨rfl, Nq19, Kq19, A19, F119, F219⟩ := q19
        have N19 := Fr.app N17 Nq19
        have O19 := O18.keep Kq19 (allS n18 all0)
        have RR19 := RR18.trans (CHr.keep Kq19 (sfS (Safe.exa hZ17.alike A18 (by decide) (by decide)) sf0) RR18.1)
        have hk19 := Nat.le_trans hk18 Kq19.1
        refine Fin.go st19 ?_
        have V19_a11 := ((V17_a11.ext E18).keep Kq19 (ninS (Nat.ne_of_lt (Nat.lt_of_lt_of_eq V17_a11.lt g18.symm)) nin0))
        have Z19_a12 := ((Z17_a12.ext E18).keep Kq19 (allS (Nat.le_trans Z17_a12.le (Nat.le_of_eq g18.symm)) all0))
        have Z19_a13 := ((Z17_a13.ext E18).keep Kq19 (allS (Nat.le_trans Z17_a13.le (Nat.le_of_eq g18.symm)) all0))
        have F19_a14_grantee := ((F17.ext E18).keep Kq19 (ninS (Nat.ne_of_lt (Nat.lt_of_lt_of_eq A17.lt g18.symm)) nin0))
        show Fin _ p e below s _ _ _ T19 (mkF m 241 #[.val (.int p0), .val (.int p1), .val (.long w0), .second, .val (.long w1), .second, .val (.int p6), .val (.int p7), .val (.int (p1 &&& (3 : Int32))), .val (.int x9), .val (.int (0 : Int32)), .val (.ref a11), .val (.int A0), .val (.int A1), .val (.int B0), .val (.int B1), .val (.int Lu), .val (.int Lg), .val (.ref a12), .val (.ref a13), .val (.ref a14), .unset, .unset, .unset] [(.ref a18)])
        refine Fin.go (fun _ k => XS.astore X19.here hx rfl (hb hby at_241) rfl rfl (l' := #[.val (.int p0), .val (.int p1), .val (.long w0), .second, .val (.long w1), .second, .val (.int p6), .val (.int p7), .val (.int (p1 &&& (3 : Int32))), .val (.int x9), .val (.int (0 : Int32)), .val (.ref a11), .val (.int A0), .val (.int A1), .val (.int B0), .val (.int B1), .val (.int Lu), .val (.int Lg), .val (.ref a12), .val (.ref a13), .val (.ref a14), .val (.ref a18), .unset, .unset]) rfl k) ?_
        refine Fin.go (fun _ k => XS.aload X19.here hx rfl (hb hby at_243) rfl rfl k) ?_
        refine Fin.go (fun _ k => XS.iload X19.here hx rfl (hb hby at_245) rfl k) ?_
        refine Fin.go (fun _ k => XS.aload X19.here hx rfl (hb hby at_247) rfl rfl k) ?_
        show Fin _ p e below s _ _ _ T19 (mkF m 249 #[.val (.int p0), .val (.int p1), .val (.long w0), .second, .val (.long w1), .second, .val (.int p6), .val (.int p7), .val (.int (p1 &&& (3 : Int32))), .val (.int x9), .val (.int (0 : Int32)), .val (.ref a11), .val (.int A0), .val (.int A1), .val (.int B0), .val (.int B1), .val (.int Lu), .val (.int Lg), .val (.ref a12), .val (.ref a13), .val (.ref a14), .val (.ref a18), .unset, .unset] [(.ref a14), (.int x9), (.ref a18)])
        obtain ⟨v20, T20, L20, X20, q20, st20⟩ := callVt X19 hx hZ17 (y := (⟨"com/example/grantwell/grantwell/engine/Principal", "counts", "(ILcom/example/grantwell/grantwell/catalog/Grant;)Z"⟩ : MethodName)) hown17 (hw _ w_87) (hw _ w_88) (hw _ w_90) (hw _ w_89) (hw _ w_76) (hw _ w_91) (by decide) (W := 0) (rmCnt0 l Z a0 hw n0 T19.heap O19 a18 a14 a13 a12 a11 k11 x9 (strL Lg B0 B1) (strL Lu A0 A1) T13.heap.size T12.heap.size  cs S_cs hcs (Ne.symm (Nat.ne_of_lt (Nat.lt_of_lt_of_le Z12.lt zd13))) (strL_len _ _ _) (strL_len _ _ _) ((A17.ext E18).keep Kq19) F19_a14_grantee F119 F219 Z19_a13 Z19_a12 V19_a11) (rfl : T19.heap = T19.heap) A19 (by decide) (by decide) (by decide) (by decide) (g := (mkF m 249 #[.val (.int p0), .val (.int p1), .val (.long w0), .second, .val (.long w1), .second, .val (.int p6), .val (.int p7), .val (.int (p1 &&& (3 : Int32))), .val (.int x9), .val (.int (0 : Int32)), .val (.ref a11), .val (.int A0), .val (.int A1), .val (.int B0), .val (.int B1), .val (.int Lu), .val (.int Lg), .val (.ref a12), .val (.ref a13), .val (.ref a14), .val (.ref a18), .unset, .unset] [(.ref a14), (.int x9), (.ref a18)])) rfl (by rw [hml]; rfl) (argsL := [(.int x9), (.ref a14)]) (rest := []) (lenOf pd_oILcom_example_grantwell_grantwell_catalog_Grant_cZ rfl) rfl (by show 2 * 0 + _ ≤ _; exact Nat.le_of_eq rfl) (hb hby at_249)
        obtain ⟨rfl, e20, rfl⟩ := q20
        have N20 := Fr.app N19 (Fr.nil n0)
        refine Fin.go st20 ?_
        show Fin _ p e below s _ _ _ T20 (mkF m 252 #[.val (.int p0), .val (.int p1), .val (.long w0), .second, .val (.long w1), .second, .val (.int p6), .val (.int p7), .val (.int (p1 &&& (3 : Int32))), .val (.int x9), .val (.int (0 : Int32)), .val (.ref a11), .val (.int A0), .val (.int A1), .val (.int B0), .val (.int B1), .val (.int Lu), .val (.int Lg), .val (.ref a12), .val (.ref a13), .val (.ref a14), .val (.ref a18), .unset, .unset] [(.int (cnt0 x9 (eqI (strL Lg B0 B1) (strL Lu A0 A1))))])
        refine Fin.go (fun _ k => XS.istore X20.here hx rfl (hb hby at_252) rfl (l' := #[.val (.int p0), .val (.int p1), .val (.long w0), .second, .val (.long w1), .second, .val (.int p6), .val (.int p7), .val (.int (p1 &&& (3 : Int32))), .val (.int x9), .val (.int (0 : Int32)), .val (.ref a11), .val (.int A0), .val (.int A1), .val (.int B0), .val (.int B1), .val (.int Lu), .val (.int Lg), .val (.ref a12), .val (.ref a13), .val (.ref a14), .val (.ref a18), .val (.int (cnt0 x9 (eqI (strL Lg B0 B1) (strL Lu A0 A1)))), .unset]) rfl k) ?_
        refine Fin.go (fun _ k => XS.iload X20.here hx rfl (hb hby at_254) rfl k) ?_
        refine Fin.go (fun _ k => XS.iconst X20.here hx rfl (hb hby at_256) k) ?_
        by_cases c257 : x9 = (-1 : Int32)
        · refine Fin.go (fun _ k => XS.icmpNo X20.here hx rfl (hb hby at_257) rfl (XT.ii_ne_f c257) k) ?_
          show Fin _ p e below s _ _ _ T20 (mkF m 260 #[.val (.int p0), .val (.int p1), .val (.long w0), .second, .val (.long w1), .second, .val (.int p6), .val (.int p7), .val (.int (p1 &&& (3 : Int32))), .val (.int x9), .val (.int (0 : Int32)), .val (.ref a11), .val (.int A0), .val (.int A1), .val (.int B0), .val (.int B1), .val (.int Lu), .val (.int Lg), .val (.ref a12), .val (.ref a13), .val (.ref a14), .val (.ref a18), .val (.int (cnt0 x9 (eqI (strL Lg B0 B1) (strL Lu A0 A1)))), .unset] [])
          refine Fin.go (fun _ k => XS.iload X20.here hx rfl (hb hby at_260) rfl k) ?_
          refine Fin.go (fun _ k => XS.iload X20.here hx rfl (hb hby at_262) rfl k) ?_
          by_cases c264 : Lu = Lg
          · refine Fin.go (fun _ k => XS.icmpNo X20.here hx rfl (hb hby at_264) rfl (XT.ii_ne_f c264) k) ?_
            show Fin _ p e below s _ _ _ T20 (mkF m 267 #[.val (.int p0), .val (.int p1), .val (.long w0), .second, .val (.long w1), .second, .val (.int p6), .val (.int p7), .val (.int (p1 &&& (3 : Int32))), .val (.int x9), .val (.int (0 : Int32)), .val (.ref a11), .val (.int A0), .val (.int A1), .val (.int B0), .val (.int B1), .val (.int Lu), .val (.int Lg), .val (.ref a12), .val (.ref a13), .val (.ref a14), .val (.ref a18), .val (.int (cnt0 x9 (eqI (strL Lg B0 B1) (strL Lu A0 A1)))), .unset] [])
            refine Fin.go (fun _ k => XS.iload X20.here hx rfl (hb hby at_267) rfl k) ?_
            refine Fin.go (fun _ k => XS.iconst X20.here hx rfl (hb hby at_269) k) ?_
            by_cases c270 : Lu < (1 : Int32)
            · refine Fin.go (fun _ k => XS.icmpYes X20.here hx rfl (pc0 := 270) (pc' := 280) rfl (hb hby at_270) rfl (XT.ii_lt_t c270) (by decide) (by decide) k) ?_
              show Fin _ p e below s _ _ _ T20 (mkF m 280 #[.val (.int p0), .val (.int p1), .val (.long w0), .second, .val (.long w1), .second, .val (.int p6), .val (.int p7), .val (.int (p1 &&& (3 : Int32))), .val (.int x9), .val (.int (0 : Int32)), .val (.ref a11), .val (.int A0), .val (.int A1), .val (.int B0), .val (.int B1), .val (.int Lu), .val (.int Lg), .val (.ref a12), .val (.ref a13), .val (.ref a14), .val (.ref a18), .val (.int (cnt0 x9 (eqI (strL Lg B0 B1) (strL Lu A0 A1)))), .unset] [])
              refine Fin.go (fun _ k => XS.iload X20.here hx rfl (hb hby at_280) rfl k) ?_
              refine Fin.go (fun _ k => XS.iconst X20.here hx rfl (hb hby at_282) k) ?_
              by_cases c283 : Lu < (2 : Int32)
              · refine Fin.go (fun _ k => XS.icmpYes X20.here hx rfl (pc0 := 283) (pc' := 293) rfl (hb hby at_283) rfl (XT.ii_lt_t c283) (by decide) (by decide) k) ?_
                show Fin _ p e below s _ _ _ T20 (mkF m 293 #[.val (.int p0), .val (.int p1), .val (.long w0), .second, .val (.long w1), .second, .val (.int p6), .val (.int p7), .val (.int (p1 &&& (3 : Int32))), .val (.int x9), .val (.int (0 : Int32)), .val (.ref a11), .val (.int A0), .val (.int A1), .val (.int B0), .val (.int B1), .val (.int Lu), .val (.int Lg), .val (.ref a12), .val (.ref a13), .val (.ref a14), .val (.ref a18), .val (.int (cnt0 x9 (eqI (strL Lg B0 B1) (strL Lu A0 A1)))), .unset] [])
                refine Fin.go (fun _ k => XS.iconst X20.here hx rfl (hb hby at_293) k) ?_
                refine Fin.go (fun _ k => XS.goto X20.here hx rfl (pc0 := 294) (pc' := 298) rfl (hb hby at_294) (by decide) (by decide) k) ?_
                refine Fin.go (fun _ k => XS.istore X20.here hx rfl (hb hby at_298) rfl (l' := #[.val (.int p0), .val (.int p1), .val (.long w0), .second, .val (.long w1), .second, .val (.int p6), .val (.int p7), .val (.int (p1 &&& (3 : Int32))), .val (.int x9), .val (.int (0 : Int32)), .val (.ref a11), .val (.int A0), .val (.int A1), .val (.int B0), .val (.int B1), .val (.int Lu), .val (.int Lg), .val (.ref a12), .val (.ref a13), .val (.ref a14), .val (.ref a18), .val (.int (cnt0 x9 (eqI (strL Lg B0 B1) (strL Lu A0 A1)))), .val (.int (1 : Int32))]) rfl k) ?_
                refine Fin.go (fun _ k => XS.goto X20.here hx rfl (pc0 := 300) (pc' := 390) rfl (hb hby at_300) (by decide) (by decide) k) ?_
                show Fin _ p e below s _ _ _ T20 (mkF m 390 #[.val (.int p0), .val (.int p1), .val (.long w0), .second, .val (.long w1), .second, .val (.int p6), .val (.int p7), .val (.int (p1 &&& (3 : Int32))), .val (.int x9), .val (.int (0 : Int32)), .val (.ref a11), .val (.int A0), .val (.int A1), .val (.int B0), .val (.int B1), .val (.int Lu), .val (.int Lg), .val (.ref a12), .val (.ref a13), .val (.ref a14), .val (.ref a18), .val (.int (cnt0 x9 (eqI (strL Lg B0 B1) (strL Lu A0 A1)))), .val (.int (1 : Int32))] [])
                refine Fin.go (fun _ k => XS.iload X20.here hx rfl (hb hby at_390) rfl k) ?_
                refine Fin.go (fun _ k => XS.iload X20.here hx rfl (hb hby at_392) rfl k) ?_
                refine Fin.go (fun _ k => XS.icmpNo X20.here hx rfl (hb hby at_394) rfl (XT.ii_ne_f (by rw [show cnt0 x9 (eqI (strL Lg B0 B1) (strL Lu A0 A1))  = eqI (strL Lg B0 B1) (strL Lu A0 A1) from if_pos c257, eq_fin hLu hLg rA0 rA1 rB0 rB1]; exact if_pos ⟨c264, Or.inl c270, Or.inl c283⟩)) k) ?_
                show Fin _ p e below s _ _ _ T20 (mkF m 397 #[.val (.int p0), .val (.int p1), .val (.long w0), .second, .val (.long w1), .second, .val (.int p6), .val (.int p7), .val (.int (p1 &&& (3 : Int32))), .val (.int x9), .val (.int (0 : Int32)), .val (.ref a11), .val (.int A0), .val (.int A1), .val (.int B0), .val (.int B1), .val (.int Lu), .val (.int Lg), .val (.ref a12), .val (.ref a13), .val (.ref a14), .val (.ref a18), .val (.int (cnt0 x9 (eqI (strL Lg B0 B1) (strL Lu A0 A1)))), .val (.int (1 : Int32))] [])
                refine Fin.go (fun _ k => XS.iconst X20.here hx rfl (hb hby at_397) k) ?_
                refine Fin.go (fun _ k => XS.goto X20.here hx rfl (pc0 := 398) (pc' := 402) rfl (hb hby at_398) (by decide) (by decide) k) ?_
                exact Fin.leaveH X20 hS17 hk19 hZ17 hEL e20 RR19 hlk (v := some (.int (nar .boolean (1 : Int32)))) (fun h => by rw [hret] at h; cases h) (by decide) (by decide) ⟨rfl, N20⟩ (fun fs hr => retN X20 hx (t := .boolean) hret (by simp) (hb hby at_402) hr)
              · refine Fin.go (fun _ k => XS.icmpNo X20.here hx rfl (hb hby at_283) rfl (XT.ii_lt_f c283) k) ?_
                show Fin _ p e below s _ _ _ T20 (mkF m 286 #[.val (.int p0), .val (.int p1), .val (.long w0), .second, .val (.long w1), .second, .val (.int p6), .val (.int p7), .val (.int (p1 &&& (3 : Int32))), .val (.int x9), .val (.int (0 : Int32)), .val (.ref a11), .val (.int A0), .val (.int A1), .val (.int B0), .val (.int B1), .val (.int Lu), .val (.int Lg), .val (.ref a12), .val (.ref a13), .val (.ref a14), .val (.ref a18), .val (.int (cnt0 x9 (eqI (strL Lg B0 B1) (strL Lu A0 A1)))), .unset] [])
                refine Fin.go (fun _ k => XS.iload X20.here hx rfl (hb hby at_286) rfl k) ?_
                refine Fin.go (fun _ k => XS.iload X20.here hx rfl (hb hby at_288) rfl k) ?_
                by_cases c290 : A1 = B1
                · refine Fin.go (fun _ k => XS.icmpNo X20.here hx rfl (hb hby at_290) rfl (XT.ii_ne_f c290) k) ?_
                  show Fin _ p e below s _ _ _ T20 (mkF m 293 #[.val (.int p0), .val (.int p1), .val (.long w0), .second, .val (.long w1), .second, .val (.int p6), .val (.int p7), .val (.int (p1 &&& (3 : Int32))), .val (.int x9), .val (.int (0 : Int32)), .val (.ref a11), .val (.int A0), .val (.int A1), .val (.int B0), .val (.int B1), .val (.int Lu), .val (.int Lg), .val (.ref a12), .val (.ref a13), .val (.ref a14), .val (.ref a18), .val (.int (cnt0 x9 (eqI (strL Lg B0 B1) (strL Lu A0 A1)))), .unset] [])
                  refine Fin.go (fun _ k => XS.iconst X20.here hx rfl (hb hby at_293) k) ?_
                  refine Fin.go (fun _ k => XS.goto X20.here hx rfl (pc0 := 294) (pc' := 298) rfl (hb hby at_294) (by decide) (by decide) k) ?_
                  refine Fin.go (fun _ k => XS.istore X20.here hx rfl (hb hby at_298) rfl (l' := #[.val (.int p0), .val (.int p1), .val (.long w0), .second, .val (.long w1), .second, .val (.int p6), .val (.int p7), .val (.int (p1 &&& (3 : Int32))), .val (.int x9), .val (.int (0 : Int32)), .val (.ref a11), .val (.int A0), .val (.int A1), .val (.int B0), .val (.int B1), .val (.int Lu), .val (.int Lg), .val (.ref a12), .val (.ref a13), .val (.ref a14), .val (.ref a18), .val (.int (cnt0 x9 (eqI (strL Lg B0 B1) (strL Lu A0 A1)))), .val (.int (1 : Int32))]) rfl k) ?_
                  refine Fin.go (fun _ k => XS.goto X20.here hx rfl (pc0 := 300) (pc' := 390) rfl (hb hby at_300) (by decide) (by decide) k) ?_
                  show Fin _ p e below s _ _ _ T20 (mkF m 390 #[.val (.int p0), .val (.int p1), .val (.long w0), .second, .val (.long w1), .second, .val (.int p6), .val (.int p7), .val (.int (p1 &&& (3 : Int32))), .val (.int x9), .val (.int (0 : Int32)), .val (.ref a11), .val (.int A0), .val (.int A1), .val (.int B0), .val (.int B1), .val (.int Lu), .val (.int Lg), .val (.ref a12), .val (.ref a13), .val (.ref a14), .val (.ref a18), .val (.int (cnt0 x9 (eqI (strL Lg B0 B1) (strL Lu A0 A1)))), .val (.int (1 : Int32))] [])
                  refine Fin.go (fun _ k => XS.iload X20.here hx rfl (hb hby at_390) rfl k) ?_
                  refine Fin.go (fun _ k => XS.iload X20.here hx rfl (hb hby at_392) rfl k) ?_
                  refine Fin.go (fun _ k => XS.icmpNo X20.here hx rfl (hb hby at_394) rfl (XT.ii_ne_f (by rw [show cnt0 x9 (eqI (strL Lg B0 B1) (strL Lu A0 A1))  = eqI (strL Lg B0 B1) (strL Lu A0 A1) from if_pos c257, eq_fin hLu hLg rA0 rA1 rB0 rB1]; exact if_pos ⟨c264, Or.inl c270, Or.inr c290⟩)) k) ?_
                  show Fin _ p e below s _ _ _ T20 (mkF m 397 #[.val (.int p0), .val (.int p1), .val (.long w0), .second, .val (.long w1), .second, .val (.int p6), .val (.int p7), .val (.int (p1 &&& (3 : Int32))), .val (.int x9), .val (.int (0 : Int32)), .val (.ref a11), .val (.int A0), .val (.int A1), .val (.int B0), .val (.int B1), .val (.int Lu), .val (.int Lg), .val (.ref a12), .val (.ref a13), .val (.ref a14), .val (.ref a18), .val (.int (cnt0 x9 (eqI (strL Lg B0 B1) (strL Lu A0 A1)))), .val (.int (1 : Int32))] [])
                  refine Fin.go (fun _ k => XS.iconst X20.here hx rfl (hb hby at_397) k) ?_
                  refine Fin.go (fun _ k => XS.goto X20.here hx rfl (pc0 := 398) (pc' := 402) rfl (hb hby at_398) (by decide) (by decide) k) ?_
                  exact Fin.leaveH X20 hS17 hk19 hZ17 hEL e20 RR19 hlk (v := some (.int (nar .boolean (1 : Int32)))) (fun h => by rw [hret] at h; cases h) (by decide) (by decide) ⟨rfl, N20⟩ (fun fs hr => retN X20 hx (t := .boolean) hret (by simp) (hb hby at_402) hr)
                · refine Fin.go (fun _ k => XS.icmpYes X20.here hx rfl (pc0 := 290) (pc' := 297) rfl (hb hby at_290) rfl (XT.ii_ne_t c290) (by decide) (by decide) k) ?_
                  show Fin _ p e below s _ _ _ T20 (mkF m 297 #[.val (.int p0), .val (.int p1), .val (.long w0), .second, .val (.long w1), .second, .val (.int p6), .val (.int p7), .val (.int (p1 &&& (3 : Int32))), .val (.int x9), .val (.int (0 : Int32)), .val (.ref a11), .val (.int A0), .val (.int A1), .val (.int B0), .val (.int B1), .val (.int Lu), .val (.int Lg), .val (.ref a12), .val (.ref a13), .val (.ref a14), .val (.ref a18), .val (.int (cnt0 x9 (eqI (strL Lg B0 B1) (strL Lu A0 A1)))), .unset] [])
                  refine Fin.go (fun _ k => XS.iconst X20.here hx rfl (hb hby at_297) k) ?_
                  refine Fin.go (fun _ k => XS.istore X20.here hx rfl (hb hby at_298) rfl (l' := #[.val (.int p0), .val (.int p1), .val (.long w0), .second, .val (.long w1), .second, .val (.int p6), .val (.int p7), .val (.int (p1 &&& (3 : Int32))), .val (.int x9), .val (.int (0 : Int32)), .val (.ref a11), .val (.int A0), .val (.int A1), .val (.int B0), .val (.int B1), .val (.int Lu), .val (.int Lg), .val (.ref a12), .val (.ref a13), .val (.ref a14), .val (.ref a18), .val (.int (cnt0 x9 (eqI (strL Lg B0 B1) (strL Lu A0 A1)))), .val (.int (0 : Int32))]) rfl k) ?_
                  refine Fin.go (fun _ k => XS.goto X20.here hx rfl (pc0 := 300) (pc' := 390) rfl (hb hby at_300) (by decide) (by decide) k) ?_
                  refine Fin.go (fun _ k => XS.iload X20.here hx rfl (hb hby at_390) rfl k) ?_
                  show Fin _ p e below s _ _ _ T20 (mkF m 392 #[.val (.int p0), .val (.int p1), .val (.long w0), .second, .val (.long w1), .second, .val (.int p6), .val (.int p7), .val (.int (p1 &&& (3 : Int32))), .val (.int x9), .val (.int (0 : Int32)), .val (.ref a11), .val (.int A0), .val (.int A1), .val (.int B0), .val (.int B1), .val (.int Lu), .val (.int Lg), .val (.ref a12), .val (.ref a13), .val (.ref a14), .val (.ref a18), .val (.int (cnt0 x9 (eqI (strL Lg B0 B1) (strL Lu A0 A1)))), .val (.int (0 : Int32))] [(.int (cnt0 x9 (eqI (strL Lg B0 B1) (strL Lu A0 A1))))])
                  refine Fin.go (fun _ k => XS.iload X20.here hx rfl (hb hby at_392) rfl k) ?_
                  refine Fin.go (fun _ k => XS.icmpNo X20.here hx rfl (hb hby at_394) rfl (XT.ii_ne_f (by rw [show cnt0 x9 (eqI (strL Lg B0 B1) (strL Lu A0 A1))  = eqI (strL Lg B0 B1) (strL Lu A0 A1) from if_pos c257, eq_fin hLu hLg rA0 rA1 rB0 rB1]; exact if_neg (fun h => h.2.2.elim c283 c290))) k) ?_
                  show Fin _ p e below s _ _ _ T20 (mkF m 397 #[.val (.int p0), .val (.int p1), .val (.long w0), .second, .val (.long w1), .second, .val (.int p6), .val (.int p7), .val (.int (p1 &&& (3 : Int32))), .val (.int x9), .val (.int (0 : Int32)), .val (.ref a11), .val (.int A0), .val (.int A1), .val (.int B0), .val (.int B1), .val (.int Lu), .val (.int Lg), .val (.ref a12), .val (.ref a13), .val (.ref a14), .val (.ref a18), .val (.int (cnt0 x9 (eqI (strL Lg B0 B1) (strL Lu A0 A1)))), .val (.int (0 : Int32))] [])
                  refine Fin.go (fun _ k => XS.iconst X20.here hx rfl (hb hby at_397) k) ?_
                  refine Fin.go (fun _ k => XS.goto X20.here hx rfl (pc0 := 398) (pc' := 402) rfl (hb hby at_398) (by decide) (by decide) k) ?_
                  exact Fin.leaveH X20 hS17 hk19 hZ17 hEL e20 RR19 hlk (v := some (.int (nar .boolean (1 : Int32)))) (fun h => by rw [hret] at h; cases h) (by decide) (by decide) ⟨rfl, N20⟩ (fun fs hr => retN X20 hx (t := .boolean) hret (by simp) (hb hby at_402) hr)
            · refine Fin.go (fun _ k => XS.icmpNo X20.here hx rfl (hb hby at_270) rfl (XT.ii_lt_f c270) k) ?_
              show Fin _ p e below s _ _ _ T20 (mkF m 273 #[.val (.int p0), .val (.int p1), .val (.long w0), .second, .val (.long w1), .second, .val (.int p6), .val (.int p7), .val (.int (p1 &&& (3 : Int32))), .val (.int x9), .val (.int (0 : Int32)), .val (.ref a11), .val (.int A0), .val (.int A1), .val (.int B0), .val (.int B1), .val (.int Lu), .val (.int Lg), .val (.ref a12), .val (.ref a13), .val (.ref a14), .val (.ref a18), .val (.int (cnt0 x9 (eqI (strL Lg B0 B1) (strL Lu A0 A1)))), .unset] [])
              refine Fin.go (fun _ k => XS.iload X20.here hx rfl (hb hby at_273) rfl k) ?_
              refine Fin.go (fun _ k => XS.iload X20.here hx rfl (hb hby at_275) rfl k) ?_
              by_cases c277 : A0 = B0
              · refine Fin.go (fun _ k => XS.icmpNo X20.here hx rfl (hb hby at_277) rfl (XT.ii_ne_f c277) k) ?_
                show Fin _ p e below s _ _ _ T20 (mkF m 280 #[.val (.int p0), .val (.int p1), .val (.long w0), .second, .val (.long w1), .second, .val (.int p6), .val (.int p7), .val (.int (p1 &&& (3 : Int32))), .val (.int x9), .val (.int (0 : Int32)), .val (.ref a11), .val (.int A0), .val (.int A1), .val (.int B0), .val (.int B1), .val (.int Lu), .val (.int Lg), .val (.ref a12), .val (.ref a13), .val (.ref a14), .val (.ref a18), .val (.int (cnt0 x9 (eqI (strL Lg B0 B1) (strL Lu A0 A1)))), .unset] [])
                refine Fin.go (fun _ k => XS.iload X20.here hx rfl (hb hby at_280) rfl k) ?_
                refine Fin.go (fun _ k => XS.iconst X20.here hx rfl (hb hby at_282) k) ?_
                by_cases c283 : Lu < (2 : Int32)
                · refine Fin.go (fun _ k => XS.icmpYes X20.here hx rfl (pc0 := 283) (pc' := 293) rfl (hb hby at_283) rfl (XT.ii_lt_t c283) (by decide) (by decide) k) ?_
                  show Fin _ p e below s _ _ _ T20 (mkF m 293 #[.val (.int p0), .val (.int p1), .val (.long w0), .second, .val (.long w1), .second, .val (.int p6), .val (.int p7), .val (.int (p1 &&& (3 : Int32))), .val (.int x9), .val (.int (0 : Int32)), .val (.ref a11), .val (.int A0), .val (.int A1), .val (.int B0), .val (.int B1), .val (.int Lu), .val (.int Lg), .val (.ref a12), .val (.ref a13), .val (.ref a14), .val (.ref a18), .val (.int (cnt0 x9 (eqI (strL Lg B0 B1) (strL Lu A0 A1)))), .unset] [])
                  refine Fin.go (fun _ k => XS.iconst X20.here hx rfl (hb hby at_293) k) ?_
                  refine Fin.go (fun _ k => XS.goto X20.here hx rfl (pc0 := 294) (pc' := 298) rfl (hb hby at_294) (by decide) (by decide) k) ?_
                  refine Fin.go (fun _ k => XS.istore X20.here hx rfl (hb hby at_298) rfl (l' := #[.val (.int p0), .val (.int p1), .val (.long w0), .second, .val (.long w1), .second, .val (.int p6), .val (.int p7), .val (.int (p1 &&& (3 : Int32))), .val (.int x9), .val (.int (0 : Int32)), .val (.ref a11), .val (.int A0), .val (.int A1), .val (.int B0), .val (.int B1), .val (.int Lu), .val (.int Lg), .val (.ref a12), .val (.ref a13), .val (.ref a14), .val (.ref a18), .val (.int (cnt0 x9 (eqI (strL Lg B0 B1) (strL Lu A0 A1)))), .val (.int (1 : Int32))]) rfl k) ?_
                  refine Fin.go (fun _ k => XS.goto X20.here hx rfl (pc0 := 300) (pc' := 390) rfl (hb hby at_300) (by decide) (by decide) k) ?_
                  show Fin _ p e below s _ _ _ T20 (mkF m 390 #[.val (.int p0), .val (.int p1), .val (.long w0), .second, .val (.long w1), .second, .val (.int p6), .val (.int p7), .val (.int (p1 &&& (3 : Int32))), .val (.int x9), .val (.int (0 : Int32)), .val (.ref a11), .val (.int A0), .val (.int A1), .val (.int B0), .val (.int B1), .val (.int Lu), .val (.int Lg), .val (.ref a12), .val (.ref a13), .val (.ref a14), .val (.ref a18), .val (.int (cnt0 x9 (eqI (strL Lg B0 B1) (strL Lu A0 A1)))), .val (.int (1 : Int32))] [])
                  refine Fin.go (fun _ k => XS.iload X20.here hx rfl (hb hby at_390) rfl k) ?_
                  refine Fin.go (fun _ k => XS.iload X20.here hx rfl (hb hby at_392) rfl k) ?_
                  refine Fin.go (fun _ k => XS.icmpNo X20.here hx rfl (hb hby at_394) rfl (XT.ii_ne_f (by rw [show cnt0 x9 (eqI (strL Lg B0 B1) (strL Lu A0 A1))  = eqI (strL Lg B0 B1) (strL Lu A0 A1) from if_pos c257, eq_fin hLu hLg rA0 rA1 rB0 rB1]; exact if_pos ⟨c264, Or.inr c277, Or.inl c283⟩)) k) ?_
                  show Fin _ p e below s _ _ _ T20 (mkF m 397 #[.val (.int p0), .val (.int p1), .val (.long w0), .second, .val (.long w1), .second, .val (.int p6), .val (.int p7), .val (.int (p1 &&& (3 : Int32))), .val (.int x9), .val (.int (0 : Int32)), .val (.ref a11), .val (.int A0), .val (.int A1), .val (.int B0), .val (.int B1), .val (.int Lu), .val (.int Lg), .val (.ref a12), .val (.ref a13), .val (.ref a14), .val (.ref a18), .val (.int (cnt0 x9 (eqI (strL Lg B0 B1) (strL Lu A0 A1)))), .val (.int (1 : Int32))] [])
                  refine Fin.go (fun _ k => XS.iconst X20.here hx rfl (hb hby at_397) k) ?_
                  refine Fin.go (fun _ k => XS.goto X20.here hx rfl (pc0 := 398) (pc' := 402) rfl (hb hby at_398) (by decide) (by decide) k) ?_
                  exact Fin.leaveH X20 hS17 hk19 hZ17 hEL e20 RR19 hlk (v := some (.int (nar .boolean (1 : Int32)))) (fun h => by rw [hret] at h; cases h) (by decide) (by decide) ⟨rfl, N20⟩ (fun fs hr => retN X20 hx (t := .boolean) hret (by simp) (hb hby at_402) hr)
                · refine Fin.go (fun _ k => XS.icmpNo X20.here hx rfl (hb hby at_283) rfl (XT.ii_lt_f c283) k) ?_
                  show Fin _ p e below s _ _ _ T20 (mkF m 286 #[.val (.int p0), .val (.int p1), .val (.long w0), .second, .val (.long w1), .second, .val (.int p6), .val (.int p7), .val (.int (p1 &&& (3 : Int32))), .val (.int x9), .val (.int (0 : Int32)), .val (.ref a11), .val (.int A0), .val (.int A1), .val (.int B0), .val (.int B1), .val (.int Lu), .val (.int Lg), .val (.ref a12), .val (.ref a13), .val (.ref a14), .val (.ref a18), .val (.int (cnt0 x9 (eqI (strL Lg B0 B1) (strL Lu A0 A1)))), .unset] [])
                  refine Fin.go (fun _ k => XS.iload X20.here hx rfl (hb hby at_286) rfl k) ?_
                  refine Fin.go (fun _ k => XS.iload X20.here hx rfl (hb hby at_288) rfl k) ?_
                  by_cases c290 : A1 = B1
                  · refine Fin.go (fun _ k => XS.icmpNo X20.here hx rfl (hb hby at_290) rfl (XT.ii_ne_f c290) k) ?_
                    show Fin _ p e below s _ _ _ T20 (mkF m 293 #[.val (.int p0), .val (.int p1), .val (.long w0), .second, .val (.long w1), .second, .val (.int p6), .val (.int p7), .val (.int (p1 &&& (3 : Int32))), .val (.int x9), .val (.int (0 : Int32)), .val (.ref a11), .val (.int A0), .val (.int A1), .val (.int B0), .val (.int B1), .val (.int Lu), .val (.int Lg), .val (.ref a12), .val (.ref a13), .val (.ref a14), .val (.ref a18), .val (.int (cnt0 x9 (eqI (strL Lg B0 B1) (strL Lu A0 A1)))), .unset] [])
                    refine Fin.go (fun _ k => XS.iconst X20.here hx rfl (hb hby at_293) k) ?_
                    refine Fin.go (fun _ k => XS.goto X20.here hx rfl (pc0 := 294) (pc' := 298) rfl (hb hby at_294) (by decide) (by decide) k) ?_
                    refine Fin.go (fun _ k => XS.istore X20.here hx rfl (hb hby at_298) rfl (l' := #[.val (.int p0), .val (.int p1), .val (.long w0), .second, .val (.long w1), .second, .val (.int p6), .val (.int p7), .val (.int (p1 &&& (3 : Int32))), .val (.int x9), .val (.int (0 : Int32)), .val (.ref a11), .val (.int A0), .val (.int A1), .val (.int B0), .val (.int B1), .val (.int Lu), .val (.int Lg), .val (.ref a12), .val (.ref a13), .val (.ref a14), .val (.ref a18), .val (.int (cnt0 x9 (eqI (strL Lg B0 B1) (strL Lu A0 A1)))), .val (.int (1 : Int32))]) rfl k) ?_
                    refine Fin.go (fun _ k => XS.goto X20.here hx rfl (pc0 := 300) (pc' := 390) rfl (hb hby at_300) (by decide) (by decide) k) ?_
                    show Fin _ p e below s _ _ _ T20 (mkF m 390 #[.val (.int p0), .val (.int p1), .val (.long w0), .second, .val (.long w1), .second, .val (.int p6), .val (.int p7), .val (.int (p1 &&& (3 : Int32))), .val (.int x9), .val (.int (0 : Int32)), .val (.ref a11), .val (.int A0), .val (.int A1), .val (.int B0), .val (.int B1), .val (.int Lu), .val (.int Lg), .val (.ref a12), .val (.ref a13), .val (.ref a14), .val (.ref a18), .val (.int (cnt0 x9 (eqI (strL Lg B0 B1) (strL Lu A0 A1)))), .val (.int (1 : Int32))] [])
                    refine Fin.go (fun _ k => XS.iload X20.here hx rfl (hb hby at_390) rfl k) ?_
                    refine Fin.go (fun _ k => XS.iload X20.here hx rfl (hb hby at_392) rfl k) ?_
                    refine Fin.go (fun _ k => XS.icmpNo X20.here hx rfl (hb hby at_394) rfl (XT.ii_ne_f (by rw [show cnt0 x9 (eqI (strL Lg B0 B1) (strL Lu A0 A1))  = eqI (strL Lg B0 B1) (strL Lu A0 A1) from if_pos c257, eq_fin hLu hLg rA0 rA1 rB0 rB1]; exact if_pos ⟨c264, Or.inr c277, Or.inr c290⟩)) k) ?_
                    show Fin _ p e below s _ _ _ T20 (mkF m 397 #[.val (.int p0), .val (.int p1), .val (.long w0), .second, .val (.long w1), .second, .val (.int p6), .val (.int p7), .val (.int (p1 &&& (3 : Int32))), .val (.int x9), .val (.int (0 : Int32)), .val (.ref a11), .val (.int A0), .val (.int A1), .val (.int B0), .val (.int B1), .val (.int Lu), .val (.int Lg), .val (.ref a12), .val (.ref a13), .val (.ref a14), .val (.ref a18), .val (.int (cnt0 x9 (eqI (strL Lg B0 B1) (strL Lu A0 A1)))), .val (.int (1 : Int32))] [])
                    refine Fin.go (fun _ k => XS.iconst X20.here hx rfl (hb hby at_397) k) ?_
                    refine Fin.go (fun _ k => XS.goto X20.here hx rfl (pc0 := 398) (pc' := 402) rfl (hb hby at_398) (by decide) (by decide) k) ?_
                    exact Fin.leaveH X20 hS17 hk19 hZ17 hEL e20 RR19 hlk (v := some (.int (nar .boolean (1 : Int32)))) (fun h => by rw [hret] at h; cases h) (by decide) (by decide) ⟨rfl, N20⟩ (fun fs hr => retN X20 hx (t := .boolean) hret (by simp) (hb hby at_402) hr)
                  · refine Fin.go (fun _ k => XS.icmpYes X20.here hx rfl (pc0 := 290) (pc' := 297) rfl (hb hby at_290) rfl (XT.ii_ne_t c290) (by decide) (by decide) k) ?_
                    show Fin _ p e below s _ _ _ T20 (mkF m 297 #[.val (.int p0), .val (.int p1), .val (.long w0), .second, .val (.long w1), .second, .val (.int p6), .val (.int p7), .val (.int (p1 &&& (3 : Int32))), .val (.int x9), .val (.int (0 : Int32)), .val (.ref a11), .val (.int A0), .val (.int A1), .val (.int B0), .val (.int B1), .val (.int Lu), .val (.int Lg), .val (.ref a12), .val (.ref a13), .val (.ref a14), .val (.ref a18), .val (.int (cnt0 x9 (eqI (strL Lg B0 B1) (strL Lu A0 A1)))), .unset] [])
                    refine Fin.go (fun _ k => XS.iconst X20.here hx rfl (hb hby at_297) k) ?_
                    refine Fin.go (fun _ k => XS.istore X20.here hx rfl (hb hby at_298) rfl (l' := #[.val (.int p0), .val (.int p1), .val (.long w0), .second, .val (.long w1), .second, .val (.int p6), .val (.int p7), .val (.int (p1 &&& (3 : Int32))), .val (.int x9), .val (.int (0 : Int32)), .val (.ref a11), .val (.int A0), .val (.int A1), .val (.int B0), .val (.int B1), .val (.int Lu), .val (.int Lg), .val (.ref a12), .val (.ref a13), .val (.ref a14), .val (.ref a18), .val (.int (cnt0 x9 (eqI (strL Lg B0 B1) (strL Lu A0 A1)))), .val (.int (0 : Int32))]) rfl k) ?_
                    refine Fin.go (fun _ k => XS.goto X20.here hx rfl (pc0 := 300) (pc' := 390) rfl (hb hby at_300) (by decide) (by decide) k) ?_
                    refine Fin.go (fun _ k => XS.iload X20.here hx rfl (hb hby at_390) rfl k) ?_
                    show Fin _ p e below s _ _ _ T20 (mkF m 392 #[.val (.int p0), .val (.int p1), .val (.long w0), .second, .val (.long w1), .second, .val (.int p6), .val (.int p7), .val (.int (p1 &&& (3 : Int32))), .val (.int x9), .val (.int (0 : Int32)), .val (.ref a11), .val (.int A0), .val (.int A1), .val (.int B0), .val (.int B1), .val (.int Lu), .val (.int Lg), .val (.ref a12), .val (.ref a13), .val (.ref a14), .val (.ref a18), .val (.int (cnt0 x9 (eqI (strL Lg B0 B1) (strL Lu A0 A1)))), .val (.int (0 : Int32))] [(.int (cnt0 x9 (eqI (strL Lg B0 B1) (strL Lu A0 A1))))])
                    refine Fin.go (fun _ k => XS.iload X20.here hx rfl (hb hby at_392) rfl k) ?_
                    refine Fin.go (fun _ k => XS.icmpNo X20.here hx rfl (hb hby at_394) rfl (XT.ii_ne_f (by rw [show cnt0 x9 (eqI (strL Lg B0 B1) (strL Lu A0 A1))  = eqI (strL Lg B0 B1) (strL Lu A0 A1) from if_pos c257, eq_fin hLu hLg rA0 rA1 rB0 rB1]; exact if_neg (fun h => h.2.2.elim c283 c290))) k) ?_
                    show Fin _ p e below s _ _ _ T20 (mkF m 397 #[.val (.int p0), .val (.int p1), .val (.long w0), .second, .val (.long w1), .second, .val (.int p6), .val (.int p7), .val (.int (p1 &&& (3 : Int32))), .val (.int x9), .val (.int (0 : Int32)), .val (.ref a11), .val (.int A0), .val (.int A1), .val (.int B0), .val (.int B1), .val (.int Lu), .val (.int Lg), .val (.ref a12), .val (.ref a13), .val (.ref a14), .val (.ref a18), .val (.int (cnt0 x9 (eqI (strL Lg B0 B1) (strL Lu A0 A1)))), .val (.int (0 : Int32))] [])
                    refine Fin.go (fun _ k => XS.iconst X20.here hx rfl (hb hby at_397) k) ?_
                    refine Fin.go (fun _ k => XS.goto X20.here hx rfl (pc0 := 398) (pc' := 402) rfl (hb hby at_398) (by decide) (by decide) k) ?_
                    exact Fin.leaveH X20 hS17 hk19 hZ17 hEL e20 RR19 hlk (v := some (.int (nar .boolean (1 : Int32)))) (fun h => by rw [hret] at h; cases h) (by decide) (by decide) ⟨rfl, N20⟩ (fun fs hr => retN X20 hx (t := .boolean) hret (by simp) (hb hby at_402) hr)
              · refine Fin.go (fun _ k => XS.icmpYes X20.here hx rfl (pc0 := 277) (pc' := 297) rfl (hb hby at_277) rfl (XT.ii_ne_t c277) (by decide) (by decide) k) ?_
                show Fin _ p e below s _ _ _ T20 (mkF m 297 #[.val (.int p0), .val (.int p1), .val (.long w0), .second, .val (.long w1), .second, .val (.int p6), .val (.int p7), .val (.int (p1 &&& (3 : Int32))), .val (.int x9), .val (.int (0 : Int32)), .val (.ref a11), .val (.int A0), .val (.int A1), .val (.int B0), .val (.int B1), .val (.int Lu), .val (.int Lg), .val (.ref a12), .val (.ref a13), .val (.ref a14), .val (.ref a18), .val (.int (cnt0 x9 (eqI (strL Lg B0 B1) (strL Lu A0 A1)))), .unset] [])
                refine Fin.go (fun _ k => XS.iconst X20.here hx rfl (hb hby at_297) k) ?_
                refine Fin.go (fun _ k => XS.istore X20.here hx rfl (hb hby at_298) rfl (l' := #[.val (.int p0), .val (.int p1), .val (.long w0), .second, .val (.long w1), .second, .val (.int p6), .val (.int p7), .val (.int (p1 &&& (3 : Int32))), .val (.int x9), .val (.int (0 : Int32)), .val (.ref a11), .val (.int A0), .val (.int A1), .val (.int B0), .val (.int B1), .val (.int Lu), .val (.int Lg), .val (.ref a12), .val (.ref a13), .val (.ref a14), .val (.ref a18), .val (.int (cnt0 x9 (eqI (strL Lg B0 B1) (strL Lu A0 A1)))), .val (.int (0 : Int32))]) rfl k) ?_
                refine Fin.go (fun _ k => XS.goto X20.here hx rfl (pc0 := 300) (pc' := 390) rfl (hb hby at_300) (by decide) (by decide) k) ?_
                refine Fin.go (fun _ k => XS.iload X20.here hx rfl (hb hby at_390) rfl k) ?_
                show Fin _ p e below s _ _ _ T20 (mkF m 392 #[.val (.int p0), .val (.int p1), .val (.long w0), .second, .val (.long w1), .second, .val (.int p6), .val (.int p7), .val (.int (p1 &&& (3 : Int32))), .val (.int x9), .val (.int (0 : Int32)), .val (.ref a11), .val (.int A0), .val (.int A1), .val (.int B0), .val (.int B1), .val (.int Lu), .val (.int Lg), .val (.ref a12), .val (.ref a13), .val (.ref a14), .val (.ref a18), .val (.int (cnt0 x9 (eqI (strL Lg B0 B1) (strL Lu A0 A1)))), .val (.int (0 : Int32))] [(.int (cnt0 x9 (eqI (strL Lg B0 B1) (strL Lu A0 A1))))])
                refine Fin.go (fun _ k => XS.iload X20.here hx rfl (hb hby at_392) rfl k) ?_
                refine Fin.go (fun _ k => XS.icmpNo X20.here hx rfl (hb hby at_394) rfl (XT.ii_ne_f (by rw [show cnt0 x9 (eqI (strL Lg B0 B1) (strL Lu A0 A1))  = eqI (strL Lg B0 B1) (strL Lu A0 A1) from if_pos c257, eq_fin hLu hLg rA0 rA1 rB0 rB1]; exact if_neg (fun h => h.2.1.elim c270 c277))) k) ?_
                show Fin _ p e below s _ _ _ T20 (mkF m 397 #[.val (.int p0), .val (.int p1), .val (.long w0), .second, .val (.long w1), .second, .val (.int p6), .val (.int p7), .val (.int (p1 &&& (3 : Int32))), .val (.int x9), .val (.int (0 : Int32)), .val (.ref a11), .val (.int A0), .val (.int A1), .val (.int B0), .val (.int B1), .val (.int Lu), .val (.int Lg), .val (.ref a12), .val (.ref a13), .val (.ref a14), .val (.ref a18), .val (.int (cnt0 x9 (eqI (strL Lg B0 B1) (strL Lu A0 A1)))), .val (.int (0 : Int32))] [])
                refine Fin.go (fun _ k => XS.iconst X20.here hx rfl (hb hby at_397) k) ?_
                refine Fin.go (fun _ k => XS.goto X20.here hx rfl (pc0 := 398) (pc' := 402) rfl (hb hby at_398) (by decide) (by decide) k) ?_
                exact Fin.leaveH X20 hS17 hk19 hZ17 hEL e20 RR19 hlk (v := some (.int (nar .boolean (1 : Int32)))) (fun h => by rw [hret] at h; cases h) (by decide) (by decide) ⟨rfl, N20⟩ (fun fs hr => retN X20 hx (t := .boolean) hret (by simp) (hb hby at_402) hr)
          · refine Fin.go (fun _ k => XS.icmpYes X20.here hx rfl (pc0 := 264) (pc' := 297) rfl (hb hby at_264) rfl (XT.ii_ne_t c264) (by decide) (by decide) k) ?_
            show Fin _ p e below s _ _ _ T20 (mkF m 297 #[.val (.int p0), .val (.int p1), .val (.long w0), .second, .val (.long w1), .second, .val (.int p6), .val (.int p7), .val (.int (p1 &&& (3 : Int32))), .val (.int x9), .val (.int (0 : Int32)), .val (.ref a11), .val (.int A0), .val (.int A1), .val (.int B0), .val (.int B1), .val (.int Lu), .val (.int Lg), .val (.ref a12), .val (.ref a13), .val (.ref a14), .val (.ref a18), .val (.int (cnt0 x9 (eqI (strL Lg B0 B1) (strL Lu A0 A1)))), .unset] [])
            refine Fin.go (fun _ k => XS.iconst X20.here hx rfl (hb hby at_297) k) ?_
            refine Fin.go (fun _ k => XS.istore X20.here hx rfl (hb hby at_298) rfl (l' := #[.val (.int p0), .val (.int p1), .val (.long w0), .second, .val (.long w1), .second, .val (.int p6), .val (.int p7), .val (.int (p1 &&& (3 : Int32))), .val (.int x9), .val (.int (0 : Int32)), .val (.ref a11), .val (.int A0), .val (.int A1), .val (.int B0), .val (.int B1), .val (.int Lu), .val (.int Lg), .val (.ref a12), .val (.ref a13), .val (.ref a14), .val (.ref a18), .val (.int (cnt0 x9 (eqI (strL Lg B0 B1) (strL Lu A0 A1)))), .val (.int (0 : Int32))]) rfl k) ?_
            refine Fin.go (fun _ k => XS.goto X20.here hx rfl (pc0 := 300) (pc' := 390) rfl (hb hby at_300) (by decide) (by decide) k) ?_
            refine Fin.go (fun _ k => XS.iload X20.here hx rfl (hb hby at_390) rfl k) ?_
            show Fin _ p e below s _ _ _ T20 (mkF m 392 #[.val (.int p0), .val (.int p1), .val (.long w0), .second, .val (.long w1), .second, .val (.int p6), .val (.int p7), .val (.int (p1 &&& (3 : Int32))), .val (.int x9), .val (.int (0 : Int32)), .val (.ref a11), .val (.int A0), .val (.int A1), .val (.int B0), .val (.int B1), .val (.int Lu), .val (.int Lg), .val (.ref a12), .val (.ref a13), .val (.ref a14), .val (.ref a18), .val (.int (cnt0 x9 (eqI (strL Lg B0 B1) (strL Lu A0 A1)))), .val (.int (0 : Int32))] [(.int (cnt0 x9 (eqI (strL Lg B0 B1) (strL Lu A0 A1))))])
            refine Fin.go (fun _ k => XS.iload X20.here hx rfl (hb hby at_392) rfl k) ?_
            refine Fin.go (fun _ k => XS.icmpNo X20.here hx rfl (hb hby at_394) rfl (XT.ii_ne_f (by rw [show cnt0 x9 (eqI (strL Lg B0 B1) (strL Lu A0 A1))  = eqI (strL Lg B0 B1) (strL Lu A0 A1) from if_pos c257, eq_fin hLu hLg rA0 rA1 rB0 rB1]; exact if_neg (fun h => c264 h.1))) k) ?_
            show Fin _ p e below s _ _ _ T20 (mkF m 397 #[.val (.int p0), .val (.int p1), .val (.long w0), .second, .val (.long w1), .second, .val (.int p6), .val (.int p7), .val (.int (p1 &&& (3 : Int32))), .val (.int x9), .val (.int (0 : Int32)), .val (.ref a11), .val (.int A0), .val (.int A1), .val (.int B0), .val (.int B1), .val (.int Lu), .val (.int Lg), .val (.ref a12), .val (.ref a13), .val (.ref a14), .val (.ref a18), .val (.int (cnt0 x9 (eqI (strL Lg B0 B1) (strL Lu A0 A1)))), .val (.int (0 : Int32))] [])
            refine Fin.go (fun _ k => XS.iconst X20.here hx rfl (hb hby at_397) k) ?_
            refine Fin.go (fun _ k => XS.goto X20.here hx rfl (pc0 := 398) (pc' := 402) rfl (hb hby at_398) (by decide) (by decide) k) ?_
            exact Fin.leaveH X20 hS17 hk19 hZ17 hEL e20 RR19 hlk (v := some (.int (nar .boolean (1 : Int32)))) (fun h => by rw [hret] at h; cases h) (by decide) (by decide) ⟨rfl, N20⟩ (fun fs hr => retN X20 hx (t := .boolean) hret (by simp) (hb hby at_402) hr)
        · refine Fin.go (fun _ k => XS.icmpYes X20.here hx rfl (pc0 := 257) (pc' := 303) rfl (hb hby at_257) rfl (XT.ii_ne_t c257) (by decide) (by decide) k) ?_
          show Fin _ p e below s _ _ _ T20 (mkF m 303 #[.val (.int p0), .val (.int p1), .val (.long w0), .second, .val (.long w1), .second, .val (.int p6), .val (.int p7), .val (.int (p1 &&& (3 : Int32))), .val (.int x9), .val (.int (0 : Int32)), .val (.ref a11), .val (.int A0), .val (.int A1), .val (.int B0), .val (.int B1), .val (.int Lu), .val (.int Lg), .val (.ref a12), .val (.ref a13), .val (.ref a14), .val (.ref a18), .val (.int (cnt0 x9 (eqI (strL Lg B0 B1) (strL Lu A0 A1)))), .unset] [])
          refine Fin.go (fun _ k => XS.iload X20.here hx rfl (hb hby at_303) rfl k) ?_
          by_cases c305 : x9 < 0
          · refine Fin.go (fun _ k => XS.ifNo X20.here hx rfl (hb hby at_305) rfl (XT.i0_ge_f c305) k) ?_
            show Fin _ p e below s _ _ _ T20 (mkF m 308 #[.val (.int p0), .val (.int p1), .val (.long w0), .second, .val (.long w1), .second, .val (.int p6), .val (.int p7), .val (.int (p1 &&& (3 : Int32))), .val (.int x9), .val (.int (0 : Int32)), .val (.ref a11), .val (.int A0), .val (.int A1), .val (.int B0), .val (.int B1), .val (.int Lu), .val (.int Lg), .val (.ref a12), .val (.ref a13), .val (.ref a14), .val (.ref a18), .val (.int (cnt0 x9 (eqI (strL Lg B0 B1) (strL Lu A0 A1)))), .unset] [])
            refine Fin.go (fun _ k => XS.iconst X20.here hx rfl (hb hby at_308) k) ?_
            refine Fin.go (fun _ k => XS.istore X20.here hx rfl (hb hby at_309) rfl (l' := #[.val (.int p0), .val (.int p1), .val (.long w0), .second, .val (.long w1), .second, .val (.int p6), .val (.int p7), .val (.int (p1 &&& (3 : Int32))), .val (.int x9), .val (.int (0 : Int32)), .val (.ref a11), .val (.int A0), .val (.int A1), .val (.int B0), .val (.int B1), .val (.int Lu), .val (.int Lg), .val (.ref a12), .val (.ref a13), .val (.ref a14), .val (.ref a18), .val (.int (cnt0 x9 (eqI (strL Lg B0 B1) (strL Lu A0 A1)))), .val (.int (0 : Int32))]) rfl k) ?_
            refine Fin.go (fun _ k => XS.goto X20.here hx rfl (pc0 := 311) (pc' := 390) rfl (hb hby at_311) (by decide) (by decide) k) ?_
            refine Fin.go (fun _ k => XS.iload X20.here hx rfl (hb hby at_390) rfl k) ?_
            show Fin _ p e below s _ _ _ T20 (mkF m 392 #[.val (.int p0), .val (.int p1), .val (.long w0), .second, .val (.long w1), .second, .val (.int p6), .val (.int p7), .val (.int (p1 &&& (3 : Int32))), .val (.int x9), .val (.int (0 : Int32)), .val (.ref a11), .val (.int A0), .val (.int A1), .val (.int B0), .val (.int B1), .val (.int Lu), .val (.int Lg), .val (.ref a12), .val (.ref a13), .val (.ref a14), .val (.ref a18), .val (.int (cnt0 x9 (eqI (strL Lg B0 B1) (strL Lu A0 A1)))), .val (.int (0 : Int32))] [(.int (cnt0 x9 (eqI (strL Lg B0 B1) (strL Lu A0 A1))))])
            refine Fin.go (fun _ k => XS.iload X20.here hx rfl (hb hby at_392) rfl k) ?_
            refine Fin.go (fun _ k => XS.icmpNo X20.here hx rfl (hb hby at_394) rfl (XT.ii_ne_f (cnt0_0 c257)) k) ?_
            show Fin _ p e below s _ _ _ T20 (mkF m 397 #[.val (.int p0), .val (.int p1), .val (.long w0), .second, .val (.long w1), .second, .val (.int p6), .val (.int p7), .val (.int (p1 &&& (3 : Int32))), .val (.int x9), .val (.int (0 : Int32)), .val (.ref a11), .val (.int A0), .val (.int A1), .val (.int B0), .val (.int B1), .val (.int Lu), .val (.int Lg), .val (.ref a12), .val (.ref a13), .val (.ref a14), .val (.ref a18), .val (.int (cnt0 x9 (eqI (strL Lg B0 B1) (strL Lu A0 A1)))), .val (.int (0 : Int32))] [])
            refine Fin.go (fun _ k => XS.iconst X20.here hx rfl (hb hby at_397) k) ?_
            refine Fin.go (fun _ k => XS.goto X20.here hx rfl (pc0 := 398) (pc' := 402) rfl (hb hby at_398) (by decide) (by decide) k) ?_
            exact Fin.leaveH X20 hS17 hk19 hZ17 hEL e20 RR19 hlk (v := some (.int (nar .boolean (1 : Int32)))) (fun h => by rw [hret] at h; cases h) (by decide) (by decide) ⟨rfl, N20⟩ (fun fs hr => retN X20 hx (t := .boolean) hret (by simp) (hb hby at_402) hr)
          · refine Fin.go (fun _ k => XS.ifYes X20.here hx rfl (pc0 := 305) (pc' := 314) rfl (hb hby at_305) rfl (XT.i0_ge_t c305) (by decide) (by decide) k) ?_
            show Fin _ p e below s _ _ _ T20 (mkF m 314 #[.val (.int p0), .val (.int p1), .val (.long w0), .second, .val (.long w1), .second, .val (.int p6), .val (.int p7), .val (.int (p1 &&& (3 : Int32))), .val (.int x9), .val (.int (0 : Int32)), .val (.ref a11), .val (.int A0), .val (.int A1), .val (.int B0), .val (.int B1), .val (.int Lu), .val (.int Lg), .val (.ref a12), .val (.ref a13), .val (.ref a14), .val (.ref a18), .val (.int (cnt0 x9 (eqI (strL Lg B0 B1) (strL Lu A0 A1)))), .unset] [])
            refine Fin.go (fun _ k => XS.iload X20.here hx rfl (hb hby at_314) rfl k) ?_
            refine Fin.go (fun _ k => XS.bipush X20.here hx rfl (hb hby at_316) k) ?_
            by_cases c318 : x9 < (64 : Int32)
            · refine Fin.go (fun _ k => XS.icmpNo X20.here hx rfl (hb hby at_318) rfl (XT.ii_ge_f c318) k) ?_
              show Fin _ p e below s _ _ _ T20 (mkF m 321 #[.val (.int p0), .val (.int p1), .val (.long w0), .second, .val (.long w1), .second, .val (.int p6), .val (.int p7), .val (.int (p1 &&& (3 : Int32))), .val (.int x9), .val (.int (0 : Int32)), .val (.ref a11), .val (.int A0), .val (.int A1), .val (.int B0), .val (.int B1), .val (.int Lu), .val (.int Lg), .val (.ref a12), .val (.ref a13), .val (.ref a14), .val (.ref a18), .val (.int (cnt0 x9 (eqI (strL Lg B0 B1) (strL Lu A0 A1)))), .unset] [])
              refine Fin.go (fun _ k => XS.iload X20.here hx rfl (hb hby at_321) rfl k) ?_
              refine Fin.go (fun _ k => XS.iconst X20.here hx rfl (hb hby at_323) k) ?_
              refine Fin.go (fun _ k => XS.icmpYes X20.here hx rfl (pc0 := 324) (pc' := 342) rfl (hb hby at_324) rfl (XT.ii_lt_t (by decide)) (by decide) (by decide) k) ?_
              show Fin _ p e below s _ _ _ T20 (mkF m 342 #[.val (.int p0), .val (.int p1), .val (.long w0), .second, .val (.long w1), .second, .val (.int p6), .val (.int p7), .val (.int (p1 &&& (3 : Int32))), .val (.int x9), .val (.int (0 : Int32)), .val (.ref a11), .val (.int A0), .val (.int A1), .val (.int B0), .val (.int B1), .val (.int Lu), .val (.int Lg), .val (.ref a12), .val (.ref a13), .val (.ref a14), .val (.ref a18), .val (.int (cnt0 x9 (eqI (strL Lg B0 B1) (strL Lu A0 A1)))), .unset] [])
              refine Fin.go (fun _ k => XS.iconst X20.here hx rfl (hb hby at_342) k) ?_
              refine Fin.go (fun _ k => XS.istore X20.here hx rfl (hb hby at_343) rfl (l' := #[.val (.int p0), .val (.int p1), .val (.long w0), .second, .val (.long w1), .second, .val (.int p6), .val (.int p7), .val (.int (p1 &&& (3 : Int32))), .val (.int x9), .val (.int (0 : Int32)), .val (.ref a11), .val (.int A0), .val (.int A1), .val (.int B0), .val (.int B1), .val (.int Lu), .val (.int Lg), .val (.ref a12), .val (.ref a13), .val (.ref a14), .val (.ref a18), .val (.int (cnt0 x9 (eqI (strL Lg B0 B1) (strL Lu A0 A1)))), .val (.int (0 : Int32))]) rfl k) ?_
              refine Fin.go (fun _ k => XS.goto X20.here hx rfl (pc0 := 345) (pc' := 390) rfl (hb hby at_345) (by decide) (by decide) k) ?_
              refine Fin.go (fun _ k => XS.iload X20.here hx rfl (hb hby at_390) rfl k) ?_
              show Fin _ p e below s _ _ _ T20 (mkF m 392 #[.val (.int p0), .val (.int p1), .val (.long w0), .second, .val (.long w1), .second, .val (.int p6), .val (.int p7), .val (.int (p1 &&& (3 : Int32))), .val (.int x9), .val (.int (0 : Int32)), .val (.ref a11), .val (.int A0), .val (.int A1), .val (.int B0), .val (.int B1), .val (.int Lu), .val (.int Lg), .val (.ref a12), .val (.ref a13), .val (.ref a14), .val (.ref a18), .val (.int (cnt0 x9 (eqI (strL Lg B0 B1) (strL Lu A0 A1)))), .val (.int (0 : Int32))] [(.int (cnt0 x9 (eqI (strL Lg B0 B1) (strL Lu A0 A1))))])
              refine Fin.go (fun _ k => XS.iload X20.here hx rfl (hb hby at_392) rfl k) ?_
              refine Fin.go (fun _ k => XS.icmpNo X20.here hx rfl (hb hby at_394) rfl (XT.ii_ne_f (cnt0_0 c257)) k) ?_
              show Fin _ p e below s _ _ _ T20 (mkF m 397 #[.val (.int p0), .val (.int p1), .val (.long w0), .second, .val (.long w1), .second, .val (.int p6), .val (.int p7), .val (.int (p1 &&& (3 : Int32))), .val (.int x9), .val (.int (0 : Int32)), .val (.ref a11), .val (.int A0), .val (.int A1), .val (.int B0), .val (.int B1), .val (.int Lu), .val (.int Lg), .val (.ref a12), .val (.ref a13), .val (.ref a14), .val (.ref a18), .val (.int (cnt0 x9 (eqI (strL Lg B0 B1) (strL Lu A0 A1)))), .val (.int (0 : Int32))] [])
              refine Fin.go (fun _ k => XS.iconst X20.here hx rfl (hb hby at_397) k) ?_
              refine Fin.go (fun _ k => XS.goto X20.here hx rfl (pc0 := 398) (pc' := 402) rfl (hb hby at_398) (by decide) (by decide) k) ?_
              exact Fin.leaveH X20 hS17 hk19 hZ17 hEL e20 RR19 hlk (v := some (.int (nar .boolean (1 : Int32)))) (fun h => by rw [hret] at h; cases h) (by decide) (by decide) ⟨rfl, N20⟩ (fun fs hr => retN X20 hx (t := .boolean) hret (by simp) (hb hby at_402) hr)
            · refine Fin.go (fun _ k => XS.icmpYes X20.here hx rfl (pc0 := 318) (pc' := 348) rfl (hb hby at_318) rfl (XT.ii_ge_t c318) (by decide) (by decide) k) ?_
              show Fin _ p e below s _ _ _ T20 (mkF m 348 #[.val (.int p0), .val (.int p1), .val (.long w0), .second, .val (.long w1), .second, .val (.int p6), .val (.int p7), .val (.int (p1 &&& (3 : Int32))), .val (.int x9), .val (.int (0 : Int32)), .val (.ref a11), .val (.int A0), .val (.int A1), .val (.int B0), .val (.int B1), .val (.int Lu), .val (.int Lg), .val (.ref a12), .val (.ref a13), .val (.ref a14), .val (.ref a18), .val (.int (cnt0 x9 (eqI (strL Lg B0 B1) (strL Lu A0 A1)))), .unset] [])
              refine Fin.go (fun _ k => XS.iload X20.here hx rfl (hb hby at_348) rfl k) ?_
              refine Fin.go (fun _ k => XS.sipush X20.here hx rfl (hb hby at_350) k) ?_
              by_cases c353 : x9 < (128 : Int32)
              · refine Fin.go (fun _ k => XS.icmpNo X20.here hx rfl (hb hby at_353) rfl (XT.ii_ge_f c353) k) ?_
                show Fin _ p e below s _ _ _ T20 (mkF m 356 #[.val (.int p0), .val (.int p1), .val (.long w0), .second, .val (.long w1), .second, .val (.int p6), .val (.int p7), .val (.int (p1 &&& (3 : Int32))), .val (.int x9), .val (.int (0 : Int32)), .val (.ref a11), .val (.int A0), .val (.int A1), .val (.int B0), .val (.int B1), .val (.int Lu), .val (.int Lg), .val (.ref a12), .val (.ref a13), .val (.ref a14), .val (.ref a18), .val (.int (cnt0 x9 (eqI (strL Lg B0 B1) (strL Lu A0 A1)))), .unset] [])
                refine Fin.go (fun _ k => XS.iload X20.here hx rfl (hb hby at_356) rfl k) ?_
                refine Fin.go (fun _ k => XS.iconst X20.here hx rfl (hb hby at_358) k) ?_
                refine Fin.go (fun _ k => XS.icmpYes X20.here hx rfl (pc0 := 359) (pc' := 381) rfl (hb hby at_359) rfl (XT.ii_lt_t (by decide)) (by decide) (by decide) k) ?_
                show Fin _ p e below s _ _ _ T20 (mkF m 381 #[.val (.int p0), .val (.int p1), .val (.long w0), .second, .val (.long w1), .second, .val (.int p6), .val (.int p7), .val (.int (p1 &&& (3 : Int32))), .val (.int x9), .val (.int (0 : Int32)), .val (.ref a11), .val (.int A0), .val (.int A1), .val (.int B0), .val (.int B1), .val (.int Lu), .val (.int Lg), .val (.ref a12), .val (.ref a13), .val (.ref a14), .val (.ref a18), .val (.int (cnt0 x9 (eqI (strL Lg B0 B1) (strL Lu A0 A1)))), .unset] [])
                refine Fin.go (fun _ k => XS.iconst X20.here hx rfl (hb hby at_381) k) ?_
                refine Fin.go (fun _ k => XS.istore X20.here hx rfl (hb hby at_382) rfl (l' := #[.val (.int p0), .val (.int p1), .val (.long w0), .second, .val (.long w1), .second, .val (.int p6), .val (.int p7), .val (.int (p1 &&& (3 : Int32))), .val (.int x9), .val (.int (0 : Int32)), .val (.ref a11), .val (.int A0), .val (.int A1), .val (.int B0), .val (.int B1), .val (.int Lu), .val (.int Lg), .val (.ref a12), .val (.ref a13), .val (.ref a14), .val (.ref a18), .val (.int (cnt0 x9 (eqI (strL Lg B0 B1) (strL Lu A0 A1)))), .val (.int (0 : Int32))]) rfl k) ?_
                refine Fin.go (fun _ k => XS.goto X20.here hx rfl (pc0 := 384) (pc' := 390) rfl (hb hby at_384) (by decide) (by decide) k) ?_
                refine Fin.go (fun _ k => XS.iload X20.here hx rfl (hb hby at_390) rfl k) ?_
                show Fin _ p e below s _ _ _ T20 (mkF m 392 #[.val (.int p0), .val (.int p1), .val (.long w0), .second, .val (.long w1), .second, .val (.int p6), .val (.int p7), .val (.int (p1 &&& (3 : Int32))), .val (.int x9), .val (.int (0 : Int32)), .val (.ref a11), .val (.int A0), .val (.int A1), .val (.int B0), .val (.int B1), .val (.int Lu), .val (.int Lg), .val (.ref a12), .val (.ref a13), .val (.ref a14), .val (.ref a18), .val (.int (cnt0 x9 (eqI (strL Lg B0 B1) (strL Lu A0 A1)))), .val (.int (0 : Int32))] [(.int (cnt0 x9 (eqI (strL Lg B0 B1) (strL Lu A0 A1))))])
                refine Fin.go (fun _ k => XS.iload X20.here hx rfl (hb hby at_392) rfl k) ?_
                refine Fin.go (fun _ k => XS.icmpNo X20.here hx rfl (hb hby at_394) rfl (XT.ii_ne_f (cnt0_0 c257)) k) ?_
                show Fin _ p e below s _ _ _ T20 (mkF m 397 #[.val (.int p0), .val (.int p1), .val (.long w0), .second, .val (.long w1), .second, .val (.int p6), .val (.int p7), .val (.int (p1 &&& (3 : Int32))), .val (.int x9), .val (.int (0 : Int32)), .val (.ref a11), .val (.int A0), .val (.int A1), .val (.int B0), .val (.int B1), .val (.int Lu), .val (.int Lg), .val (.ref a12), .val (.ref a13), .val (.ref a14), .val (.ref a18), .val (.int (cnt0 x9 (eqI (strL Lg B0 B1) (strL Lu A0 A1)))), .val (.int (0 : Int32))] [])
                refine Fin.go (fun _ k => XS.iconst X20.here hx rfl (hb hby at_397) k) ?_
                refine Fin.go (fun _ k => XS.goto X20.here hx rfl (pc0 := 398) (pc' := 402) rfl (hb hby at_398) (by decide) (by decide) k) ?_
                exact Fin.leaveH X20 hS17 hk19 hZ17 hEL e20 RR19 hlk (v := some (.int (nar .boolean (1 : Int32)))) (fun h => by rw [hret] at h; cases h) (by decide) (by decide) ⟨rfl, N20⟩ (fun fs hr => retN X20 hx (t := .boolean) hret (by simp) (hb hby at_402) hr)
              · refine Fin.go (fun _ k => XS.icmpYes X20.here hx rfl (pc0 := 353) (pc' := 387) rfl (hb hby at_353) rfl (XT.ii_ge_t c353) (by decide) (by decide) k) ?_
                show Fin _ p e below s _ _ _ T20 (mkF m 387 #[.val (.int p0), .val (.int p1), .val (.long w0), .second, .val (.long w1), .second, .val (.int p6), .val (.int p7), .val (.int (p1 &&& (3 : Int32))), .val (.int x9), .val (.int (0 : Int32)), .val (.ref a11), .val (.int A0), .val (.int A1), .val (.int B0), .val (.int B1), .val (.int Lu), .val (.int Lg), .val (.ref a12), .val (.ref a13), .val (.ref a14), .val (.ref a18), .val (.int (cnt0 x9 (eqI (strL Lg B0 B1) (strL Lu A0 A1)))), .unset] [])
                refine Fin.go (fun _ k => XS.iconst X20.here hx rfl (hb hby at_387) k) ?_
                refine Fin.go (fun _ k => XS.istore X20.here hx rfl (hb hby at_388) rfl (l' := #[.val (.int p0), .val (.int p1), .val (.long w0), .second, .val (.long w1), .second, .val (.int p6), .val (.int p7), .val (.int (p1 &&& (3 : Int32))), .val (.int x9), .val (.int (0 : Int32)), .val (.ref a11), .val (.int A0), .val (.int A1), .val (.int B0), .val (.int B1), .val (.int Lu), .val (.int Lg), .val (.ref a12), .val (.ref a13), .val (.ref a14), .val (.ref a18), .val (.int (cnt0 x9 (eqI (strL Lg B0 B1) (strL Lu A0 A1)))), .val (.int (0 : Int32))]) rfl k) ?_
                refine Fin.go (fun _ k => XS.iload X20.here hx rfl (hb hby at_390) rfl k) ?_
                refine Fin.go (fun _ k => XS.iload X20.here hx rfl (hb hby at_392) rfl k) ?_
                show Fin _ p e below s _ _ _ T20 (mkF m 394 #[.val (.int p0), .val (.int p1), .val (.long w0), .second, .val (.long w1), .second, .val (.int p6), .val (.int p7), .val (.int (p1 &&& (3 : Int32))), .val (.int x9), .val (.int (0 : Int32)), .val (.ref a11), .val (.int A0), .val (.int A1), .val (.int B0), .val (.int B1), .val (.int Lu), .val (.int Lg), .val (.ref a12), .val (.ref a13), .val (.ref a14), .val (.ref a18), .val (.int (cnt0 x9 (eqI (strL Lg B0 B1) (strL Lu A0 A1)))), .val (.int (0 : Int32))] [(.int (0 : Int32)), (.int (cnt0 x9 (eqI (strL Lg B0 B1) (strL Lu A0 A1))))])
                refine Fin.go (fun _ k => XS.icmpNo X20.here hx rfl (hb hby at_394) rfl (XT.ii_ne_f (cnt0_0 c257)) k) ?_
                show Fin _ p e below s _ _ _ T20 (mkF m 397 #[.val (.int p0), .val (.int p1), .val (.long w0), .second, .val (.long w1), .second, .val (.int p6), .val (.int p7), .val (.int (p1 &&& (3 : Int32))), .val (.int x9), .val (.int (0 : Int32)), .val (.ref a11), .val (.int A0), .val (.int A1), .val (.int B0), .val (.int B1), .val (.int Lu), .val (.int Lg), .val (.ref a12), .val (.ref a13), .val (.ref a14), .val (.ref a18), .val (.int (cnt0 x9 (eqI (strL Lg B0 B1) (strL Lu A0 A1)))), .val (.int (0 : Int32))] [])
                refine Fin.go (fun _ k => XS.iconst X20.here hx rfl (hb hby at_397) k) ?_
                refine Fin.go (fun _ k => XS.goto X20.here hx rfl (pc0 := 398) (pc' := 402) rfl (hb hby at_398) (by decide) (by decide) k) ?_
                exact Fin.leaveH X20 hS17 hk19 hZ17 hEL e20 RR19 hlk (v := some (.int (nar .boolean (1 : Int32)))) (fun h => by rw [hret] at h; cases h) (by decide) (by decide) ⟨rfl, N20⟩ (fun fs hr => retN X20 hx (t := .boolean) hret (by simp) (hb hby at_402) hr)
      show Fin _ p e below s _ _ _ T16 (mkF m 213 #[.val (.int p0), .val (.int p1), .val (.long w0), .second, .val (.long w1), .second, .val (.int p6), .val (.int p7), .val (.int (p1 &&& (3 : Int32))), .val (.int x9), .val (.int (0 : Int32)), .val (.ref a11), .val (.int A0), .val (.int A1), .val (.int B0), .val (.int B1), .val (.int Lu), .val (.int Lg), .val (.ref a12), .val (.ref a13), .unset, .unset, .unset, .unset] [(.ref o16), (.ref a12), (.ref a13), (.ref a14), (.ref a14)])
      refine Fin.go (fun _ k => XS.iloadN X16.here hx rfl (hb hby at_213) rfl k) ?_
      refine Fin.go (fun _ k => XS.iconst X16.here hx rfl (hb hby at_214) k) ?_
      refine Fin.go (fun _ k => XS.iand X16.here hx rfl (hb hby at_215) rfl k) ?_
      by_cases c216 : (p1 &&& (4 : Int32)) = 0
      · refine Fin.go (fun _ k => XS.ifYes X16.here hx rfl (pc0 := 216) (pc' := 223) rfl (hb hby at_216) rfl (XT.i0_eq_t c216) (by decide) (by decide) k) ?_
        show Fin _ p e below s _ _ _ T16 (mkF m 223 #[.val (.int p0), .val (.int p1), .val (.long w0), .second, .val (.long w1), .second, .val (.int p6), .val (.int p7), .val (.int (p1 &&& (3 : Int32))), .val (.int x9), .val (.int (0 : Int32)), .val (.ref a11), .val (.int A0), .val (.int A1), .val (.int B0), .val (.int B1), .val (.int Lu), .val (.int Lg), .val (.ref a12), .val (.ref a13), .unset, .unset, .unset, .unset] [(.ref o16), (.ref a12), (.ref a13), (.ref a14), (.ref a14)])
        refine Fin.go (fun _ k => XS.iconst X16.here hx rfl (hb hby at_223) k) ?_
        show Fin _ p e below s _ _ _ T16 (mkF m 224 #[.val (.int p0), .val (.int p1), .val (.long w0), .second, .val (.long w1), .second, .val (.int p6), .val (.int p7), .val (.int (p1 &&& (3 : Int32))), .val (.int x9), .val (.int (0 : Int32)), .val (.ref a11), .val (.int A0), .val (.int A1), .val (.int B0), .val (.int B1), .val (.int Lu), .val (.int Lg), .val (.ref a12), .val (.ref a13), .unset, .unset, .unset, .unset] [(.int (0 : Int32)), (.ref o16), (.ref a12), (.ref a13), (.ref a14), (.ref a14)])
        exact tl _ (Or.inl rfl)
      · refine Fin.go (fun _ k => XS.ifNo X16.here hx rfl (hb hby at_216) rfl (XT.i0_eq_f c216) k) ?_
        show Fin _ p e below s _ _ _ T16 (mkF m 219 #[.val (.int p0), .val (.int p1), .val (.long w0), .second, .val (.long w1), .second, .val (.int p6), .val (.int p7), .val (.int (p1 &&& (3 : Int32))), .val (.int x9), .val (.int (0 : Int32)), .val (.ref a11), .val (.int A0), .val (.int A1), .val (.int B0), .val (.int B1), .val (.int Lu), .val (.int Lg), .val (.ref a12), .val (.ref a13), .unset, .unset, .unset, .unset] [(.ref o16), (.ref a12), (.ref a13), (.ref a14), (.ref a14)])
        refine Fin.go (fun _ k => XS.iconst X16.here hx rfl (hb hby at_219) k) ?_
        refine Fin.go (fun _ k => XS.goto X16.here hx rfl (pc0 := 220) (pc' := 224) rfl (hb hby at_220) (by decide) (by decide) k) ?_
        show Fin _ p e below s _ _ _ T16 (mkF m 224 #[.val (.int p0), .val (.int p1), .val (.long w0), .second, .val (.long w1), .second, .val (.int p6), .val (.int p7), .val (.int (p1 &&& (3 : Int32))), .val (.int x9), .val (.int (0 : Int32)), .val (.ref a11), .val (.int A0), .val (.int A1), .val (.int B0), .val (.int B1), .val (.int Lu), .val (.int Lg), .val (.ref a12), .val (.ref a13), .unset, .unset, .unset, .unset] [(.int (1 : Int32)), (.ref o16), (.ref a12), (.ref a13), (.ref a14), (.ref a14)])
        exact tl _ (Or.inr rfl)
    · refine Fin.go (fun _ k => XS.ifYes X0.here hx rfl (pc0 := 61) (pc' := 72) rfl (hb hby at_61) rfl (XT.i0_ne_t c61) (by decide) (by decide) k) ?_
      show Fin _ p e below s _ _ _ s₁ (mkF m 72 #[.val (.int p0), .val (.int p1), .val (.long w0), .second, .val (.long w1), .second, .val (.int p6), .val (.int p7), .val (.int (p1 &&& (3 : Int32))), .val (.int x9), .val (.int ((p6 &&& (2147483647 : Int32)) % (3 : Int32))), .unset, .unset, .unset, .unset, .unset, .unset, .unset, .unset, .unset, .unset, .unset, .unset, .unset] [])
      refine Fin.go (fun _ k => XS.iload X0.here hx rfl (hb hby at_72) rfl k) ?_
      refine Fin.go (fun _ k => XS.iconst X0.here hx rfl (hb hby at_74) k) ?_
      by_cases c75 : ((p6 &&& (2147483647 : Int32)) % (3 : Int32)) = (1 : Int32)
      · refine Fin.go (fun _ k => XS.icmpNo X0.here hx rfl (hb hby at_75) rfl (XT.ii_ne_f c75) k) ?_
        show Fin _ p e below s _ _ _ s₁ (mkF m 78 #[.val (.int p0), .val (.int p1), .val (.long w0), .second, .val (.long w1), .second, .val (.int p6), .val (.int p7), .val (.int (p1 &&& (3 : Int32))), .val (.int x9), .val (.int ((p6 &&& (2147483647 : Int32)) % (3 : Int32))), .unset, .unset, .unset, .unset, .unset, .unset, .unset, .unset, .unset, .unset, .unset, .unset, .unset] [])
        rw [c75]
        show Fin _ p e below s _ _ _ s₁ (mkF m 78 #[.val (.int p0), .val (.int p1), .val (.long w0), .second, .val (.long w1), .second, .val (.int p6), .val (.int p7), .val (.int (p1 &&& (3 : Int32))), .val (.int x9), .val (.int (1 : Int32)), .unset, .unset, .unset, .unset, .unset, .unset, .unset, .unset, .unset, .unset, .unset, .unset, .unset] [])
        refine Fin.go (fun _ k => XS.iconst X0.here hx rfl (hb hby at_78) k) ?_
        obtain ⟨T21, h21, k21, X21, e21, E21, A21, st21⟩ := newP X0 hx hZ (aty := .long) (hw _ w_1) e0 (g := (mkF m 79 #[.val (.int p0), .val (.int p1), .val (.long w0), .second, .val (.long w1), .second, .val (.int p6), .val (.int p7), .val (.int (p1 &&& (3 : Int32))), .val (.int x9), .val (.int (1 : Int32)), .unset, .unset, .unset, .unset, .unset, .unset, .unset, .unset, .unset, .unset, .unset, .unset, .unset] [(.int (1 : Int32))])) rfl (hb hby at_79) rfl (by decide : ¬ ((1 : Int32) < (0 : Int32))) (cap := 1) (by decide) (by decide) (by decide) (by decide)
        obtain ⟨a21, g21⟩ : ∃ z, z = h0.size := ⟨_, rfl⟩
        rw [← g21] at A21 st21
        refine Fin.go st21 ?_
        have O21 := O.ext E21
        have hk21 := Nat.le_trans (Nat.zero_le _) E21.1
        have RR21 := RR0.trans (CHr.ext E21 RR0.1)
        have n21 : n0 ≤ a21 := by have := O.2.1; have := O.1; omega
        have V21 : Arv Z h21 a21 k21 .long (1 : Int32) [(.long (0 : Int64))] (.long (0 : Int64)) := (Arv.new A21 (by decide)).pad (pad_rep [] (.long (0 : Int64)) 1)
        show Fin _ p e below s _ _ _ T21 (mkF m 81 #[.val (.int p0), .val (.int p1), .val (.long w0), .second, .val (.long w1), .second, .val (.int p6), .val (.int p7), .val (.int (p1 &&& (3 : Int32))), .val (.int x9), .val (.int (1 : Int32)), .unset, .unset, .unset, .unset, .unset, .unset, .unset, .unset, .unset, .unset, .unset, .unset, .unset] [(.ref a21)])
        refine Fin.go (fun _ k => XS.dup X21.here hx rfl (hb hby at_81) rfl rfl k) ?_
        refine Fin.go (fun _ k => XS.iconst X21.here hx rfl (hb hby at_82) k) ?_
        refine Fin.go (fun _ k => XT.lloadN X21.here hx rfl (hb hby at_83) rfl k) ?_
        obtain ⟨c22, B22, q22, S22, M22, H22, G22⟩ := id V21
        obtain ⟨T22, h22, X22, e22, W22, st22⟩ := stJ X21 hx hZ e21 B22 (j := (0 : Int32)) (inb_of S22 ⟨(by decide : ¬ ((0 : Int32) < (0 : Int32))), (by decide : (0 : Int32) < (1 : Int32))⟩) (g := (mkF m 84 #[.val (.int p0), .val (.int p1), .val (.long w0), .second, .val (.long w1), .second, .val (.int p6), .val (.int p7), .val (.int (p1 &&& (3 : Int32))), .val (.int x9), .val (.int (1 : Int32)), .unset, .unset, .unset, .unset, .unset, .unset, .unset, .unset, .unset, .unset, .unset, .unset, .unset] [(.long w0), (.int (0 : Int32)), (.ref a21), (.ref a21)])) rfl rfl (hb hby at_84)
        refine Fin.go st22 ?_
        have V22 : Arv Z h22 a21 k21 .long (1 : Int32) [(.long w0)] (.long (0 : Int64)) := (Arv.set B22 q22 S22 M22 H22 G22 rfl W22 0 rfl (Nat.le_of_ble_eq_true rfl))
        have N22 := Fr.snoc X22 N0 n21
        have O22 := O21.wr W22 n21
        have hk22 := Nat.le_trans hk21 (Keep.of_wr W22).1
        have RR22 := RR21.trans (CHr.wr W22 (Safe.arv hZ.alike V21 (by decide)) RR21.1)
        show Fin _ p e below s _ _ _ T22 (mkF m 85 #[.val (.int p0), .val (.int p1), .val (.long w0), .second, .val (.long w1), .second, .val (.int p6), .val (.int p7), .val (.int (p1 &&& (3 : Int32))), .val (.int x9), .val (.int (1 : Int32)), .unset, .unset, .unset, .unset, .unset, .unset, .unset, .unset, .unset, .unset, .unset, .unset, .unset] [(.ref a21)])
        refine Fin.go (fun _ k => XS.astore X22.here hx rfl (hb hby at_85) rfl rfl (l' := #[.val (.int p0), .val (.int p1), .val (.long w0), .second, .val (.long w1), .second, .val (.int p6), .val (.int p7), .val (.int (p1 &&& (3 : Int32))), .val (.int x9), .val (.int (1 : Int32)), .val (.ref a21), .unset, .unset, .unset, .unset, .unset, .unset, .unset, .unset, .unset, .unset, .unset, .unset]) rfl k) ?_
        refine Fin.go (fun _ k => XS.goto X22.here hx rfl (pc0 := 87) (pc' := 104) rfl (hb hby at_87) (by decide) (by decide) k) ?_
        refine Fin.go (fun _ k => XS.iload X22.here hx rfl (hb hby at_104) rfl k) ?_
        refine Fin.go (fun _ k => XS.sipush X22.here hx rfl (hb hby at_106) k) ?_
        show Fin _ p e below s _ _ _ T22 (mkF m 109 #[.val (.int p0), .val (.int p1), .val (.long w0), .second, .val (.long w1), .second, .val (.int p6), .val (.int p7), .val (.int (p1 &&& (3 : Int32))), .val (.int x9), .val (.int (1 : Int32)), .val (.ref a21), .unset, .unset, .unset, .unset, .unset, .unset, .unset, .unset, .unset, .unset, .unset, .unset] [(.int (255 : Int32)), (.int p7)])
        refine Fin.go (fun _ k => XS.iand X22.here hx rfl (hb hby at_109) rfl k) ?_
        refine Fin.go (fun _ k => XT.i2c X22.here hx rfl (hb hby at_110) rfl k) ?_
        refine Fin.go (fun _ k => XS.istore X22.here hx rfl (hb hby at_111) rfl (l' := #[.val (.int p0), .val (.int p1), .val (.long w0), .second, .val (.long w1), .second, .val (.int p6), .val (.int p7), .val (.int (p1 &&& (3 : Int32))), .val (.int x9), .val (.int (1 : Int32)), .val (.ref a21), .val (.int ((Int32.toUInt32 (p7 &&& (255 : Int32))).toUInt16.toUInt32.toInt32)), .unset, .unset, .unset, .unset, .unset, .unset, .unset, .unset, .unset, .unset, .unset]) rfl k) ?_
        refine Fin.go (fun _ k => XS.iload X22.here hx rfl (hb hby at_113) rfl k) ?_
        show Fin _ p e below s _ _ _ T22 (mkF m 115 #[.val (.int p0), .val (.int p1), .val (.long w0), .second, .val (.long w1), .second, .val (.int p6), .val (.int p7), .val (.int (p1 &&& (3 : Int32))), .val (.int x9), .val (.int (1 : Int32)), .val (.ref a21), .val (.int ((Int32.toUInt32 (p7 &&& (255 : Int32))).toUInt16.toUInt32.toInt32)), .unset, .unset, .unset, .unset, .unset, .unset, .unset, .unset, .unset, .unset, .unset] [(.int p7)])
        refine Fin.go (fun _ k => XS.bipush X22.here hx rfl (hb hby at_115) k) ?_
        refine Fin.go (fun _ k => XT.iushr X22.here hx rfl (hb hby at_117) rfl k) ?_
        refine Fin.go (fun _ k => XS.sipush X22.here hx rfl (hb hby at_118) k) ?_
        refine Fin.go (fun _ k => XS.iand X22.here hx rfl (hb hby at_121) rfl k) ?_
        show Fin _ p e below s _ _ _ T22 (mkF m 122 #[.val (.int p0), .val (.int p1), .val (.long w0), .second, .val (.long w1), .second, .val (.int p6), .val (.int p7), .val (.int (p1 &&& (3 : Int32))), .val (.int x9), .val (.int (1 : Int32)), .val (.ref a21), .val (.int ((Int32.toUInt32 (p7 &&& (255 : Int32))).toUInt16.toUInt32.toInt32)), .unset, .unset, .unset, .unset, .unset, .unset, .unset, .unset, .unset, .unset, .unset] [(.int ((XT.ushr p7 (8 : Int32)) &&& (255 : Int32)))])
        refine Fin.go (fun _ k => XT.i2c X22.here hx rfl (hb hby at_122) rfl k) ?_
        refine Fin.go (fun _ k => XS.istore X22.here hx rfl (hb hby at_123) rfl (l' := #[.val (.int p0), .val (.int p1), .val (.long w0), .second, .val (.long w1), .second, .val (.int p6), .val (.int p7), .val (.int (p1 &&& (3 : Int32))), .val (.int x9), .val (.int (1 : Int32)), .val (.ref a21), .val (.int ((Int32.toUInt32 (p7 &&& (255 : Int32))).toUInt16.toUInt32.toInt32)), .val (.int ((Int32.toUInt32 ((XT.ushr p7 (8 : Int32)) &&& (255 : Int32))).toUInt16.toUInt32.toInt32)), .unset, .unset, .unset, .unset, .unset, .unset, .unset, .unset, .unset, .unset]) rfl k) ?_
        refine Fin.go (fun _ k => XS.iload X22.here hx rfl (hb hby at_125) rfl k) ?_
        refine Fin.go (fun _ k => XS.iload X22.here hx rfl (hb hby at_127) rfl k) ?_
        show Fin _ p e below s _ _ _ T22 (mkF m 129 #[.val (.int p0), .val (.int p1), .val (.long w0), .second, .val (.long w1), .second, .val (.int p6), .val (.int p7), .val (.int (p1 &&& (3 : Int32))), .val (.int x9), .val (.int (1 : Int32)), .val (.ref a21), .val (.int ((Int32.toUInt32 (p7 &&& (255 : Int32))).toUInt16.toUInt32.toInt32)), .val (.int ((Int32.toUInt32 ((XT.ushr p7 (8 : Int32)) &&& (255 : Int32))).toUInt16.toUInt32.toInt32)), .unset, .unset, .unset, .unset, .unset, .unset, .unset, .unset, .unset, .unset] [(.int p7), (.int ((Int32.toUInt32 (p7 &&& (255 : Int32))).toUInt16.toUInt32.toInt32))])
        refine Fin.go (fun _ k => XS.bipush X22.here hx rfl (hb hby at_129) k) ?_
        refine Fin.go (fun _ k => XT.iushr X22.here hx rfl (hb hby at_131) rfl k) ?_
        refine Fin.go (fun _ k => XS.iconst X22.here hx rfl (hb hby at_132) k) ?_
        refine Fin.go (fun _ k => XS.iand X22.here hx rfl (hb hby at_133) rfl k) ?_
        show Fin _ p e below s _ _ _ T22 (mkF m 134 #[.val (.int p0), .val (.int p1), .val (.long w0), .second, .val (.long w1), .second, .val (.int p6), .val (.int p7), .val (.int (p1 &&& (3 : Int32))), .val (.int x9), .val (.int (1 : Int32)), .val (.ref a21), .val (.int ((Int32.toUInt32 (p7 &&& (255 : Int32))).toUInt16.toUInt32.toInt32)), .val (.int ((Int32.toUInt32 ((XT.ushr p7 (8 : Int32)) &&& (255 : Int32))).toUInt16.toUInt32.toInt32)), .unset, .unset, .unset, .unset, .unset, .unset, .unset, .unset, .unset, .unset] [(.int ((XT.ushr p7 (16 : Int32)) &&& (1 : Int32))), (.int ((Int32.toUInt32 (p7 &&& (255 : Int32))).toUInt16.toUInt32.toInt32))])
        refine Fin.go (fun _ k => XS.iconst X22.here hx rfl (hb hby at_134) k) ?_
        refine Fin.go (fun _ k => XT.ishl X22.here hx rfl (hb hby at_135) rfl k) ?_
        refine Fin.go (fun _ k => XT.ixor X22.here hx rfl (hb hby at_136) rfl k) ?_
        refine Fin.go (fun _ k => XT.i2c X22.here hx rfl (hb hby at_137) rfl k) ?_
        show Fin _ p e below s _ _ _ T22 (mkF m 138 #[.val (.int p0), .val (.int p1), .val (.long w0), .second, .val (.long w1), .second, .val (.int p6), .val (.int p7), .val (.int (p1 &&& (3 : Int32))), .val (.int x9), .val (.int (1 : Int32)), .val (.ref a21), .val (.int ((Int32.toUInt32 (p7 &&& (255 : Int32))).toUInt16.toUInt32.toInt32)), .val (.int ((Int32.toUInt32 ((XT.ushr p7 (8 : Int32)) &&& (255 : Int32))).toUInt16.toUInt32.toInt32)), .unset, .unset, .unset, .unset, .unset, .unset, .unset, .unset, .unset, .unset] [(.int ((Int32.toUInt32 (((Int32.toUInt32 (p7 &&& (255 : Int32))).toUInt16.toUInt32.toInt32) ^^^ (((XT.ushr p7 (16 : Int32)) &&& (1 : Int32)) <<< ((5 : Int32) &&& 31)))).toUInt16.toUInt32.toInt32))])
        refine Fin.go (fun _ k => XS.istore X22.here hx rfl (hb hby at_138) rfl (l' := #[.val (.int p0), .val (.int p1), .val (.long w0), .second, .val (.long w1), .second, .val (.int p6), .val (.int p7), .val (.int (p1 &&& (3 : Int32))), .val (.int x9), .val (.int (1 : Int32)), .val (.ref a21), .val (.int ((Int32.toUInt32 (p7 &&& (255 : Int32))).toUInt16.toUInt32.toInt32)), .val (.int ((Int32.toUInt32 ((XT.ushr p7 (8 : Int32)) &&& (255 : Int32))).toUInt16.toUInt32.toInt32)), .val (.int ((Int32.toUInt32 (((Int32.toUInt32 (p7 &&& (255 : Int32))).toUInt16.toUInt32.toInt32) ^^^ (((XT.ushr p7 (16 : Int32)) &&& (1 : Int32)) <<< ((5 : Int32) &&& 31)))).toUInt16.toUInt32.toInt32)), .unset, .unset, .unset, .unset, .unset, .unset, .unset, .unset, .unset]) rfl k) ?_
        refine Fin.go (fun _ k => XS.iload X22.here hx rfl (hb hby at_140) rfl k) ?_
        refine Fin.go (fun _ k => XS.iload X22.here hx rfl (hb hby at_142) rfl k) ?_
        refine Fin.go (fun _ k => XS.bipush X22.here hx rfl (hb hby at_144) k) ?_
        show Fin _ p e below s _ _ _ T22 (mkF m 146 #[.val (.int p0), .val (.int p1), .val (.long w0), .second, .val (.long w1), .second, .val (.int p6), .val (.int p7), .val (.int (p1 &&& (3 : Int32))), .val (.int x9), .val (.int (1 : Int32)), .val (.ref a21), .val (.int ((Int32.toUInt32 (p7 &&& (255 : Int32))).toUInt16.toUInt32.toInt32)), .val (.int ((Int32.toUInt32 ((XT.ushr p7 (8 : Int32)) &&& (255 : Int32))).toUInt16.toUInt32.toInt32)), .val (.int ((Int32.toUInt32 (((Int32.toUInt32 (p7 &&& (255 : Int32))).toUInt16.toUInt32.toInt32) ^^^ (((XT.ushr p7 (16 : Int32)) &&& (1 : Int32)) <<< ((5 : Int32) &&& 31)))).toUInt16.toUInt32.toInt32)), .unset, .unset, .unset, .unset, .unset, .unset, .unset, .unset, .unset] [(.int (17 : Int32)), (.int p7), (.int ((Int32.toUInt32 ((XT.ushr p7 (8 : Int32)) &&& (255 : Int32))).toUInt16.toUInt32.toInt32))])
        refine Fin.go (fun _ k => XT.iushr X22.here hx rfl (hb hby at_146) rfl k) ?_
        refine Fin.go (fun _ k => XS.iconst X22.here hx rfl (hb hby at_147) k) ?_
        refine Fin.go (fun _ k => XS.iand X22.here hx rfl (hb hby at_148) rfl k) ?_
        refine Fin.go (fun _ k => XS.iconst X22.here hx rfl (hb hby at_149) k) ?_
        show Fin _ p e below s _ _ _ T22 (mkF m 150 #[.val (.int p0), .val (.int p1), .val (.long w0), .second, .val (.long w1), .second, .val (.int p6), .val (.int p7), .val (.int (p1 &&& (3 : Int32))), .val (.int x9), .val (.int (1 : Int32)), .val (.ref a21), .val (.int ((Int32.toUInt32 (p7 &&& (255 : Int32))).toUInt16.toUInt32.toInt32)), .val (.int ((Int32.toUInt32 ((XT.ushr p7 (8 : Int32)) &&& (255 : Int32))).toUInt16.toUInt32.toInt32)), .val (.int ((Int32.toUInt32 (((Int32.toUInt32 (p7 &&& (255 : Int32))).toUInt16.toUInt32.toInt32) ^^^ (((XT.ushr p7 (16 : Int32)) &&& (1 : Int32)) <<< ((5 : Int32) &&& 31)))).toUInt16.toUInt32.toInt32)), .unset, .unset, .unset, .unset, .unset, .unset, .unset, .unset, .unset] [(.int (5 : Int32)), (.int ((XT.ushr p7 (17 : Int32)) &&& (1 : Int32))), (.int ((Int32.toUInt32 ((XT.ushr p7 (8 : Int32)) &&& (255 : Int32))).toUInt16.toUInt32.toInt32))])
        refine Fin.go (fun _ k => XT.ishl X22.here hx rfl (hb hby at_150) rfl k) ?_
        refine Fin.go (fun _ k => XT.ixor X22.here hx rfl (hb hby at_151) rfl k) ?_
        refine Fin.go (fun _ k => XT.i2c X22.here hx rfl (hb hby at_152) rfl k) ?_
        refine Fin.go (fun _ k => XS.istore X22.here hx rfl (hb hby at_153) rfl (l' := #[.val (.int p0), .val (.int p1), .val (.long w0), .second, .val (.long w1), .second, .val (.int p6), .val (.int p7), .val (.int (p1 &&& (3 : Int32))), .val (.int x9), .val (.int (1 : Int32)), .val (.ref a21), .val (.int ((Int32.toUInt32 (p7 &&& (255 : Int32))).toUInt16.toUInt32.toInt32)), .val (.int ((Int32.toUInt32 ((XT.ushr p7 (8 : Int32)) &&& (255 : Int32))).toUInt16.toUInt32.toInt32)), .val (.int ((Int32.toUInt32 (((Int32.toUInt32 (p7 &&& (255 : Int32))).toUInt16.toUInt32.toInt32) ^^^ (((XT.ushr p7 (16 : Int32)) &&& (1 : Int32)) <<< ((5 : Int32) &&& 31)))).toUInt16.toUInt32.toInt32)), .val (.int ((Int32.toUInt32 (((Int32.toUInt32 ((XT.ushr p7 (8 : Int32)) &&& (255 : Int32))).toUInt16.toUInt32.toInt32) ^^^ (((XT.ushr p7 (17 : Int32)) &&& (1 : Int32)) <<< ((5 : Int32) &&& 31)))).toUInt16.toUInt32.toInt32)), .unset, .unset, .unset, .unset, .unset, .unset, .unset, .unset]) rfl k) ?_
        show Fin _ p e below s _ _ _ T22 (mkF m 155 #[.val (.int p0), .val (.int p1), .val (.long w0), .second, .val (.long w1), .second, .val (.int p6), .val (.int p7), .val (.int (p1 &&& (3 : Int32))), .val (.int x9), .val (.int (1 : Int32)), .val (.ref a21), .val (.int ((Int32.toUInt32 (p7 &&& (255 : Int32))).toUInt16.toUInt32.toInt32)), .val (.int ((Int32.toUInt32 ((XT.ushr p7 (8 : Int32)) &&& (255 : Int32))).toUInt16.toUInt32.toInt32)), .val (.int ((Int32.toUInt32 (((Int32.toUInt32 (p7 &&& (255 : Int32))).toUInt16.toUInt32.toInt32) ^^^ (((XT.ushr p7 (16 : Int32)) &&& (1 : Int32)) <<< ((5 : Int32) &&& 31)))).toUInt16.toUInt32.toInt32)), .val (.int ((Int32.toUInt32 (((Int32.toUInt32 ((XT.ushr p7 (8 : Int32)) &&& (255 : Int32))).toUInt16.toUInt32.toInt32) ^^^ (((XT.ushr p7 (17 : Int32)) &&& (1 : Int32)) <<< ((5 : Int32) &&& 31)))).toUInt16.toUInt32.toInt32)), .unset, .unset, .unset, .unset, .unset, .unset, .unset, .unset] [])
        refine Fin.go (fun _ k => XS.iload X22.here hx rfl (hb hby at_155) rfl k) ?_
        refine Fin.go (fun _ k => XS.bipush X22.here hx rfl (hb hby at_157) k) ?_
        refine Fin.go (fun _ k => XT.iushr X22.here hx rfl (hb hby at_159) rfl k) ?_
        refine Fin.go (fun _ k => XS.iconst X22.here hx rfl (hb hby at_160) k) ?_
        show Fin _ p e below s _ _ _ T22 (mkF m 161 #[.val (.int p0), .val (.int p1), .val (.long w0), .second, .val (.long w1), .second, .val (.int p6), .val (.int p7), .val (.int (p1 &&& (3 : Int32))), .val (.int x9), .val (.int (1 : Int32)), .val (.ref a21), .val (.int ((Int32.toUInt32 (p7 &&& (255 : Int32))).toUInt16.toUInt32.toInt32)), .val (.int ((Int32.toUInt32 ((XT.ushr p7 (8 : Int32)) &&& (255 : Int32))).toUInt16.toUInt32.toInt32)), .val (.int ((Int32.toUInt32 (((Int32.toUInt32 (p7 &&& (255 : Int32))).toUInt16.toUInt32.toInt32) ^^^ (((XT.ushr p7 (16 : Int32)) &&& (1 : Int32)) <<< ((5 : Int32) &&& 31)))).toUInt16.toUInt32.toInt32)), .val (.int ((Int32.toUInt32 (((Int32.toUInt32 ((XT.ushr p7 (8 : Int32)) &&& (255 : Int32))).toUInt16.toUInt32.toInt32) ^^^ (((XT.ushr p7 (17 : Int32)) &&& (1 : Int32)) <<< ((5 : Int32) &&& 31)))).toUInt16.toUInt32.toInt32)), .unset, .unset, .unset, .unset, .unset, .unset, .unset, .unset] [(.int (3 : Int32)), (.int (XT.ushr p7 (18 : Int32)))])
        refine Fin.go (fun _ k => XS.iand X22.here hx rfl (hb hby at_161) rfl k) ?_
        refine Fin.go (fun _ k => XS.iconst X22.here hx rfl (hb hby at_162) k) ?_
        refine Fin.go (fun _ k => iremM X22 hx rfl (hb hby at_163) rfl (by decide) k) ?_
        refine Fin.go (fun _ k => XS.istore X22.here hx rfl (hb hby at_164) rfl (l' := #[.val (.int p0), .val (.int p1), .val (.long w0), .second, .val (.long w1), .second, .val (.int p6), .val (.int p7), .val (.int (p1 &&& (3 : Int32))), .val (.int x9), .val (.int (1 : Int32)), .val (.ref a21), .val (.int ((Int32.toUInt32 (p7 &&& (255 : Int32))).toUInt16.toUInt32.toInt32)), .val (.int ((Int32.toUInt32 ((XT.ushr p7 (8 : Int32)) &&& (255 : Int32))).toUInt16.toUInt32.toInt32)), .val (.int ((Int32.toUInt32 (((Int32.toUInt32 (p7 &&& (255 : Int32))).toUInt16.toUInt32.toInt32) ^^^ (((XT.ushr p7 (16 : Int32)) &&& (1 : Int32)) <<< ((5 : Int32) &&& 31)))).toUInt16.toUInt32.toInt32)), .val (.int ((Int32.toUInt32 (((Int32.toUInt32 ((XT.ushr p7 (8 : Int32)) &&& (255 : Int32))).toUInt16.toUInt32.toInt32) ^^^ (((XT.ushr p7 (17 : Int32)) &&& (1 : Int32)) <<< ((5 : Int32) &&& 31)))).toUInt16.toUInt32.toInt32)), .val (.int (((XT.ushr p7 (18 : Int32)) &&& (3 : Int32)) % (3 : Int32))), .unset, .unset, .unset, .unset, .unset, .unset, .unset]) rfl k) ?_
        show Fin _ p e below s _ _ _ T22 (mkF m 166 #[.val (.int p0), .val (.int p1), .val (.long w0), .second, .val (.long w1), .second, .val (.int p6), .val (.int p7), .val (.int (p1 &&& (3 : Int32))), .val (.int x9), .val (.int (1 : Int32)), .val (.ref a21), .val (.int ((Int32.toUInt32 (p7 &&& (255 : Int32))).toUInt16.toUInt32.toInt32)), .val (.int ((Int32.toUInt32 ((XT.ushr p7 (8 : Int32)) &&& (255 : Int32))).toUInt16.toUInt32.toInt32)), .val (.int ((Int32.toUInt32 (((Int32.toUInt32 (p7 &&& (255 : Int32))).toUInt16.toUInt32.toInt32) ^^^ (((XT.ushr p7 (16 : Int32)) &&& (1 : Int32)) <<< ((5 : Int32) &&& 31)))).toUInt16.toUInt32.toInt32)), .val (.int ((Int32.toUInt32 (((Int32.toUInt32 ((XT.ushr p7 (8 : Int32)) &&& (255 : Int32))).toUInt16.toUInt32.toInt32) ^^^ (((XT.ushr p7 (17 : Int32)) &&& (1 : Int32)) <<< ((5 : Int32) &&& 31)))).toUInt16.toUInt32.toInt32)), .val (.int (((XT.ushr p7 (18 : Int32)) &&& (3 : Int32)) % (3 : Int32))), .unset, .unset, .unset, .unset, .unset, .unset, .unset] [])
        refine Fin.go (fun _ k => XS.iload X22.here hx rfl (hb hby at_166) rfl k) ?_
        refine Fin.go (fun _ k => XS.bipush X22.here hx rfl (hb hby at_168) k) ?_
        refine Fin.go (fun _ k => XT.iushr X22.here hx rfl (hb hby at_170) rfl k) ?_
        refine Fin.go (fun _ k => XS.iconst X22.here hx rfl (hb hby at_171) k) ?_
        show Fin _ p e below s _ _ _ T22 (mkF m 172 #[.val (.int p0), .val (.int p1), .val (.long w0), .second, .val (.long w1), .second, .val (.int p6), .val (.int p7), .val (.int (p1 &&& (3 : Int32))), .val (.int x9), .val (.int (1 : Int32)), .val (.ref a21), .val (.int ((Int32.toUInt32 (p7 &&& (255 : Int32))).toUInt16.toUInt32.toInt32)), .val (.int ((Int32.toUInt32 ((XT.ushr p7 (8 : Int32)) &&& (255 : Int32))).toUInt16.toUInt32.toInt32)), .val (.int ((Int32.toUInt32 (((Int32.toUInt32 (p7 &&& (255 : Int32))).toUInt16.toUInt32.toInt32) ^^^ (((XT.ushr p7 (16 : Int32)) &&& (1 : Int32)) <<< ((5 : Int32) &&& 31)))).toUInt16.toUInt32.toInt32)), .val (.int ((Int32.toUInt32 (((Int32.toUInt32 ((XT.ushr p7 (8 : Int32)) &&& (255 : Int32))).toUInt16.toUInt32.toInt32) ^^^ (((XT.ushr p7 (17 : Int32)) &&& (1 : Int32)) <<< ((5 : Int32) &&& 31)))).toUInt16.toUInt32.toInt32)), .val (.int (((XT.ushr p7 (18 : Int32)) &&& (3 : Int32)) % (3 : Int32))), .unset, .unset, .unset, .unset, .unset, .unset, .unset] [(.int (3 : Int32)), (.int (XT.ushr p7 (20 : Int32)))])
        refine Fin.go (fun _ k => XS.iand X22.here hx rfl (hb hby at_172) rfl k) ?_
        refine Fin.go (fun _ k => XS.iconst X22.here hx rfl (hb hby at_173) k) ?_
        refine Fin.go (fun _ k => iremM X22 hx rfl (hb hby at_174) rfl (by decide) k) ?_
        refine Fin.go (fun _ k => XS.istore X22.here hx rfl (hb hby at_175) rfl (l' := #[.val (.int p0), .val (.int p1), .val (.long w0), .second, .val (.long w1), .second, .val (.int p6), .val (.int p7), .val (.int (p1 &&& (3 : Int32))), .val (.int x9), .val (.int (1 : Int32)), .val (.ref a21), .val (.int ((Int32.toUInt32 (p7 &&& (255 : Int32))).toUInt16.toUInt32.toInt32)), .val (.int ((Int32.toUInt32 ((XT.ushr p7 (8 : Int32)) &&& (255 : Int32))).toUInt16.toUInt32.toInt32)), .val (.int ((Int32.toUInt32 (((Int32.toUInt32 (p7 &&& (255 : Int32))).toUInt16.toUInt32.toInt32) ^^^ (((XT.ushr p7 (16 : Int32)) &&& (1 : Int32)) <<< ((5 : Int32) &&& 31)))).toUInt16.toUInt32.toInt32)), .val (.int ((Int32.toUInt32 (((Int32.toUInt32 ((XT.ushr p7 (8 : Int32)) &&& (255 : Int32))).toUInt16.toUInt32.toInt32) ^^^ (((XT.ushr p7 (17 : Int32)) &&& (1 : Int32)) <<< ((5 : Int32) &&& 31)))).toUInt16.toUInt32.toInt32)), .val (.int (((XT.ushr p7 (18 : Int32)) &&& (3 : Int32)) % (3 : Int32))), .val (.int (((XT.ushr p7 (20 : Int32)) &&& (3 : Int32)) % (3 : Int32))), .unset, .unset, .unset, .unset, .unset, .unset]) rfl k) ?_
        show Fin _ p e below s _ _ _ T22 (mkF m 177 #[.val (.int p0), .val (.int p1), .val (.long w0), .second, .val (.long w1), .second, .val (.int p6), .val (.int p7), .val (.int (p1 &&& (3 : Int32))), .val (.int x9), .val (.int (1 : Int32)), .val (.ref a21), .val (.int ((Int32.toUInt32 (p7 &&& (255 : Int32))).toUInt16.toUInt32.toInt32)), .val (.int ((Int32.toUInt32 ((XT.ushr p7 (8 : Int32)) &&& (255 : Int32))).toUInt16.toUInt32.toInt32)), .val (.int ((Int32.toUInt32 (((Int32.toUInt32 (p7 &&& (255 : Int32))).toUInt16.toUInt32.toInt32) ^^^ (((XT.ushr p7 (16 : Int32)) &&& (1 : Int32)) <<< ((5 : Int32) &&& 31)))).toUInt16.toUInt32.toInt32)), .val (.int ((Int32.toUInt32 (((Int32.toUInt32 ((XT.ushr p7 (8 : Int32)) &&& (255 : Int32))).toUInt16.toUInt32.toInt32) ^^^ (((XT.ushr p7 (17 : Int32)) &&& (1 : Int32)) <<< ((5 : Int32) &&& 31)))).toUInt16.toUInt32.toInt32)), .val (.int (((XT.ushr p7 (18 : Int32)) &&& (3 : Int32)) % (3 : Int32))), .val (.int (((XT.ushr p7 (20 : Int32)) &&& (3 : Int32)) % (3 : Int32))), .unset, .unset, .unset, .unset, .unset, .unset] [])
        have rA0 := r255_and p7
        have rA1 := r255_and (XT.ushr p7 (8 : Int32))
        have rB0 := r255_xor rA0 (XT.ushr p7 (16 : Int32))
        have rB1 := r255_xor rA1 (XT.ushr p7 (17 : Int32))
        have hLu := mod3 (XT.ushr p7 (18 : Int32))
        have hLg := mod3 (XT.ushr p7 (20 : Int32))
        generalize hhB0 : ((Int32.toUInt32 (((Int32.toUInt32 (p7 &&& (255 : Int32))).toUInt16.toUInt32.toInt32) ^^^ (((XT.ushr p7 (16 : Int32)) &&& (1 : Int32)) <<< ((5 : Int32) &&& 31)))).toUInt16.toUInt32.toInt32) = B0 at rB0 ⊢
        generalize hhB1 : ((Int32.toUInt32 (((Int32.toUInt32 ((XT.ushr p7 (8 : Int32)) &&& (255 : Int32))).toUInt16.toUInt32.toInt32) ^^^ (((XT.ushr p7 (17 : Int32)) &&& (1 : Int32)) <<< ((5 : Int32) &&& 31)))).toUInt16.toUInt32.toInt32) = B1 at rB1 ⊢
        generalize hhA0 : ((Int32.toUInt32 (p7 &&& (255 : Int32))).toUInt16.toUInt32.toInt32) = A0 at rA0 ⊢
        generalize hhA1 : ((Int32.toUInt32 ((XT.ushr p7 (8 : Int32)) &&& (255 : Int32))).toUInt16.toUInt32.toInt32) = A1 at rA1 ⊢
        generalize hhLu : (((XT.ushr p7 (18 : Int32)) &&& (3 : Int32)) % (3 : Int32)) = Lu at hLu ⊢
        generalize hhLg : (((XT.ushr p7 (20 : Int32)) &&& (3 : Int32)) % (3 : Int32)) = Lg at hLg ⊢
        show Fin _ p e below s _ _ _ T22 (mkF m 177 #[.val (.int p0), .val (.int p1), .val (.long w0), .second, .val (.long w1), .second, .val (.int p6), .val (.int p7), .val (.int (p1 &&& (3 : Int32))), .val (.int x9), .val (.int (1 : Int32)), .val (.ref a21), .val (.int A0), .val (.int A1), .val (.int B0), .val (.int B1), .val (.int Lu), .val (.int Lg), .unset, .unset, .unset, .unset, .unset, .unset] [])
        refine Fin.go (fun _ k => XS.iload X22.here hx rfl (hb hby at_177) rfl k) ?_
        refine Fin.go (fun _ k => XS.iload X22.here hx rfl (hb hby at_179) rfl k) ?_
        refine Fin.go (fun _ k => XS.iload X22.here hx rfl (hb hby at_181) rfl k) ?_
        obtain ⟨v23, T23, L23, X23, hS23, hZ23, hown23, RC23, q23, st23⟩ := callStH X22 hx hZ (y := (⟨"com/example/grantwell/grantwell/engine/PrincipalCountsPinLaw", "str", "(ICC)Ljava/lang/String;"⟩ : MethodName)) hown (hw _ w_2) (hw _ w_3) (hw _ w_4) (hw _ w_5) (by decide) (W := 0) (rmS l Z a0 hw n0 h22 O22 Lu A0 A1 rA0 rA1 cs S_cs hcs) e22 hS hk22 hEL RR22.1 (by decide) (by decide) (by decide) (by decide) (g := (mkF m 183 #[.val (.int p0), .val (.int p1), .val (.long w0), .second, .val (.long w1), .second, .val (.int p6), .val (.int p7), .val (.int (p1 &&& (3 : Int32))), .val (.int x9), .val (.int (1 : Int32)), .val (.ref a21), .val (.int A0), .val (.int A1), .val (.int B0), .val (.int B1), .val (.int Lu), .val (.int Lg), .unset, .unset, .unset, .unset, .unset, .unset] [(.int A1), (.int A0), (.int Lu)])) rfl (by rw [hml]; rfl) (argsL := [(.int Lu), (.int A0), (.int A1)]) (rest := []) (lenOf pd_oICCcLjava_lang_String_ rfl) rfl (by show 2 * 0 + _ ≤ _; exact Nat.le_of_eq rfl) (hb hby at_183)
        obtain ⟨a23, rfl, Nq23, Kq23, Z23, zd23⟩ := q23
        have N23 := Fr.app N22 Nq23
        have O23 := O22.keep Kq23 all0
        have RR23 := RR22.trans RC23
        refine Fin.go st23 ?_
        show Fin _ p e below s _ _ _ T23 (mkF m 186 #[.val (.int p0), .val (.int p1), .val (.long w0), .second, .val (.long w1), .second, .val (.int p6), .val (.int p7), .val (.int (p1 &&& (3 : Int32))), .val (.int x9), .val (.int (1 : Int32)), .val (.ref a21), .val (.int A0), .val (.int A1), .val (.int B0), .val (.int B1), .val (.int Lu), .val (.int Lg), .unset, .unset, .unset, .unset, .unset, .unset] [(.ref a23)])
        have nzd23 : n0 ≤ a23 := Nat.le_trans (by have := O22.1; have := O22.2.1; omega) zd23
        refine Fin.go (fun _ k => XS.astore X23.here hx rfl (hb hby at_186) rfl rfl (l' := #[.val (.int p0), .val (.int p1), .val (.long w0), .second, .val (.long w1), .second, .val (.int p6), .val (.int p7), .val (.int (p1 &&& (3 : Int32))), .val (.int x9), .val (.int (1 : Int32)), .val (.ref a21), .val (.int A0), .val (.int A1), .val (.int B0), .val (.int B1), .val (.int Lu), .val (.int Lg), .val (.ref a23), .unset, .unset, .unset, .unset, .unset]) rfl k) ?_
        refine Fin.go (fun _ k => XS.iload X23.here hx rfl (hb hby at_188) rfl k) ?_
        refine Fin.go (fun _ k => XS.iload X23.here hx rfl (hb hby at_190) rfl k) ?_
        refine Fin.go (fun _ k => XS.iload X23.here hx rfl (hb hby at_192) rfl k) ?_
        show Fin _ p e below s _ _ _ T23 (mkF m 194 #[.val (.int p0), .val (.int p1), .val (.long w0), .second, .val (.long w1), .second, .val (.int p6), .val (.int p7), .val (.int (p1 &&& (3 : Int32))), .val (.int x9), .val (.int (1 : Int32)), .val (.ref a21), .val (.int A0), .val (.int A1), .val (.int B0), .val (.int B1), .val (.int Lu), .val (.int Lg), .val (.ref a23), .unset, .unset, .unset, .unset, .unset] [(.int B1), (.int B0), (.int Lg)])
        obtain ⟨v24, T24, L24, X24, hS24, hZ24, hown24, RC24, q24, st24⟩ := callStH X23 hx hZ23 (y := (⟨"com/example/grantwell/grantwell/engine/PrincipalCountsPinLaw", "str", "(ICC)Ljava/lang/String;"⟩ : MethodName)) hown23 (hw _ w_2) (hw _ w_3) (hw _ w_4) (hw _ w_5) (by decide) (W := 0) (rmS l Z a0 hw n0 T23.heap O23 Lg B0 B1 rB0 rB1 cs S_cs hcs) (rfl : T23.heap = T23.heap) hS23 (Nat.le_refl T23.heap.size) hEL RR23.1 (by decide) (by decide) (by decide) (by decide) (g := (mkF m 194 #[.val (.int p0), .val (.int p1), .val (.long w0), .second, .val (.long w1), .second, .val (.int p6), .val (.int p7), .val (.int (p1 &&& (3 : Int32))), .val (.int x9), .val (.int (1 : Int32)), .val (.ref a21), .val (.int A0), .val (.int A1), .val (.int B0), .val (.int B1), .val (.int Lu), .val (.int Lg), .val (.ref a23), .unset, .unset, .unset, .unset, .unset] [(.int B1), (.int B0), (.int Lg)])) rfl (by rw [hml]; rfl) (argsL := [(.int Lg), (.int B0), (.int B1)]) (rest := []) (lenOf pd_oICCcLjava_lang_String_ rfl) rfl (by show 2 * 0 + _ ≤ _; exact Nat.le_of_eq rfl) (hb hby at_194)
        obtain ⟨a24, rfl, Nq24, Kq24, Z24, zd24⟩ := q24
        have N24 := Fr.app N23 Nq24
        have O24 := O23.keep Kq24 all0
        have RR24 := RR23.trans RC24
        refine Fin.go st24 ?_
        show Fin _ p e below s _ _ _ T24 (mkF m 197 #[.val (.int p0), .val (.int p1), .val (.long w0), .second, .val (.long w1), .second, .val (.int p6), .val (.int p7), .val (.int (p1 &&& (3 : Int32))), .val (.int x9), .val (.int (1 : Int32)), .val (.ref a21), .val (.int A0), .val (.int A1), .val (.int B0), .val (.int B1), .val (.int Lu), .val (.int Lg), .val (.ref a23), .unset, .unset, .unset, .unset, .unset] [(.ref a24)])
        have nzd24 : n0 ≤ a24 := Nat.le_trans (by have := O23.1; have := O23.2.1; omega) zd24
        refine Fin.go (fun _ k => XS.astore X24.here hx rfl (hb hby at_197) rfl rfl (l' := #[.val (.int p0), .val (.int p1), .val (.long w0), .second, .val (.long w1), .second, .val (.int p6), .val (.int p7), .val (.int (p1 &&& (3 : Int32))), .val (.int x9), .val (.int (1 : Int32)), .val (.ref a21), .val (.int A0), .val (.int A1), .val (.int B0), .val (.int B1), .val (.int Lu), .val (.int Lg), .val (.ref a23), .val (.ref a24), .unset, .unset, .unset, .unset]) rfl k) ?_
        obtain ⟨T25, h25, X25, e25, E25, A25, D25, U25, st25⟩ := newO X24 hx hZ24 hown24 (hw _ w_28) (hw _ w_29) (hw _ w_30) (rfl : T24.heap = T24.heap) (g := (mkF m 199 #[.val (.int p0), .val (.int p1), .val (.long w0), .second, .val (.long w1), .second, .val (.int p6), .val (.int p7), .val (.int (p1 &&& (3 : Int32))), .val (.int x9), .val (.int (1 : Int32)), .val (.ref a21), .val (.int A0), .val (.int A1), .val (.int B0), .val (.int B1), .val (.int Lu), .val (.int Lg), .val (.ref a23), .val (.ref a24), .unset, .unset, .unset, .unset] [])) rfl (hb hby at_199) (by decide) (by decide)
        obtain ⟨a25, g25⟩ : ∃ z, z = T24.heap.size := ⟨_, rfl⟩
        rw [← g25] at A25 D25 U25 st25
        refine Fin.go st25 ?_
        have O25 := O24.ext E25
        have hk25 := Nat.le_trans (Nat.le_refl T24.heap.size) E25.1
        have RR25 := RR24.trans (CHr.ext E25 RR24.1)
        have n25 : n0 ≤ a25 := by have := O24.2.1; have := O24.1; omega
        have F25_grantee : Fld Z h25 a25 "com/example/grantwell/grantwell/catalog/Grant" "grantee" "Ljava/lang/String;" .null := D25 (Or.inr (hw _ w_67)) (ty := (.object "java/lang/String")) (by decide)
        have F25_grantor : Fld Z h25 a25 "com/example/grantwell/grantwell/catalog/Grant" "grantor" "Ljava/lang/String;" .null := D25 (Or.inr (hw _ w_69)) (ty := (.object "java/lang/String")) (by decide)
        have F25_action : Fld Z h25 a25 "com/example/grantwell/grantwell/catalog/Grant" "action" "Lcom/example/grantwell/grantwell/catalog/Action;" .null := D25 (Or.inr (hw _ w_71)) (ty := (.object "com/example/grantwell/grantwell/catalog/Action")) (by decide)
        have F25_grantOption : Fld Z h25 a25 "com/example/grantwell/grantwell/catalog/Grant" "grantOption" "Z" (.int (0 : Int32)) := D25 (Or.inr (hw _ w_73)) (ty := .boolean) (by decide)
        show Fin _ p e below s _ _ _ T25 (mkF m 202 #[.val (.int p0), .val (.int p1), .val (.long w0), .second, .val (.long w1), .second, .val (.int p6), .val (.int p7), .val (.int (p1 &&& (3 : Int32))), .val (.int x9), .val (.int (1 : Int32)), .val (.ref a21), .val (.int A0), .val (.int A1), .val (.int B0), .val (.int B1), .val (.int Lu), .val (.int Lg), .val (.ref a23), .val (.ref a24), .unset, .unset, .unset, .unset] [(.ref a25)])
        refine Fin.go (fun _ k => XS.dup X25.here hx rfl (hb hby at_202) rfl rfl k) ?_
        refine Fin.go (fun _ k => XS.aload X25.here hx rfl (hb hby at_203) rfl rfl k) ?_
        refine Fin.go (fun _ k => XS.aload X25.here hx rfl (hb hby at_205) rfl rfl k) ?_
        obtain ⟨T26, X26, e26, st26⟩ := getS2 X25 hx hZ24 hown24 (host := "") (Or.inl (hw _ w_31)) Via.refl e25 (S_aS.ext O25.2) (g := (mkF m 207 #[.val (.int p0), .val (.int p1), .val (.long w0), .second, .val (.long w1), .second, .val (.int p6), .val (.int p7), .val (.int (p1 &&& (3 : Int32))), .val (.int x9), .val (.int (1 : Int32)), .val (.ref a21), .val (.int A0), .val (.int A1), .val (.int B0), .val (.int B1), .val (.int Lu), .val (.int Lg), .val (.ref a23), .val (.ref a24), .unset, .unset, .unset, .unset] [(.ref a23), (.ref a24), (.ref a25), (.ref a25)])) rfl (hb hby at_207)
        refine Fin.go st26 ?_
        show Fin _ p e below s _ _ _ T26 (mkF m 210 #[.val (.int p0), .val (.int p1), .val (.long w0), .second, .val (.long w1), .second, .val (.int p6), .val (.int p7), .val (.int (p1 &&& (3 : Int32))), .val (.int x9), .val (.int (1 : Int32)), .val (.ref a21), .val (.int A0), .val (.int A1), .val (.int B0), .val (.int B1), .val (.int Lu), .val (.int Lg), .val (.ref a23), .val (.ref a24), .unset, .unset, .unset, .unset] [(.ref aS), (.ref a23), (.ref a24), (.ref a25), (.ref a25)])
        obtain ⟨v27, T27, L27, X27, hS27, hZ27, hown27, RC27, q27, st27⟩ := callStH X26 hx hZ24 (y := (⟨"com/example/grantwell/grantwell/catalog/Action", "onTable", "(Lcom/example/grantwell/grantwell/catalog/Privilege;)Lcom/example/grantwell/grantwell/catalog/Action;"⟩ : MethodName)) hown24 (hw _ w_34) (hw _ w_35) (hw _ w_36) (hw _ w_37) (by decide) (W := 4) (rmOT l Z a0 hw n0 h25 O25 aS) e26 hS24 hk25 hEL RR25.1 (by decide) (by decide) (by decide) (by decide) (g := (mkF m 210 #[.val (.int p0), .val (.int p1), .val (.long w0), .second, .val (.long w1), .second, .val (.int p6), .val (.int p7), .val (.int (p1 &&& (3 : Int32))), .val (.int x9), .val (.int (1 : Int32)), .val (.ref a21), .val (.int A0), .val (.int A1), .val (.int B0), .val (.int B1), .val (.int Lu), .val (.int Lg), .val (.ref a23), .val (.ref a24), .unset, .unset, .unset, .unset] [(.ref aS), (.ref a23), (.ref a24), (.ref a25), (.ref a25)])) rfl (by rw [hml]; rfl) (argsL := [(.ref aS)]) (rest := [(.ref a23), (.ref a24), (.ref a25), (.ref a25)]) (lenOf pd_oLcom_example_grantwell_grantwell_catalog_Privilege_cLcom_example_grantwell_grantwell_catalog_Action_ rfl) rfl (by show 2 * 0 + _ ≤ _; exact Nat.le_of_eq rfl) (hb hby at_210)
        obtain ⟨o27, rfl, Nq27, Kq27⟩ := q27
        have N27 := Fr.app N24 Nq27
        have O27 := O25.keep Kq27 all0
        have RR27 := RR25.trans RC27
        refine Fin.go st27 ?_
        have V27_a21 := ((((V22.keep Kq23 nin0).keep Kq24 nin0).ext E25).keep Kq27 nin0)
        show Fin _ p e below s _ _ _ T27 (mkF m 213 #[.val (.int p0), .val (.int p1), .val (.long w0), .second, .val (.long w1), .second, .val (.int p6), .val (.int p7), .val (.int (p1 &&& (3 : Int32))), .val (.int x9), .val (.int (1 : Int32)), .val (.ref a21), .val (.int A0), .val (.int A1), .val (.int B0), .val (.int B1), .val (.int Lu), .val (.int Lg), .val (.ref a23), .val (.ref a24), .unset, .unset, .unset, .unset] [(.ref o27), (.ref a23), (.ref a24), (.ref a25), (.ref a25)])
        have tl : ∀ (z : Int32) (hz : z = 0 ∨ z = 1), Fin (EH Z EL) p e below s (fun v h L => v = some (.int 1) ∧ Fr n0 L) room_1.cells room_1.slots T27 (mkF m 224 #[.val (.int p0), .val (.int p1), .val (.long w0), .second, .val (.long w1), .second, .val (.int p6), .val (.int p7), .val (.int (p1 &&& (3 : Int32))), .val (.int x9), .val (.int (1 : Int32)), .val (.ref a21), .val (.int A0), .val (.int A1), .val (.int B0), .val (.int B1), .val (.int Lu), .val (.int Lg), .val (.ref a23), .val (.ref a24), .unset, .unset, .unset, .unset] [(.int z), (.ref o27), (.ref a23), (.ref a24), (.ref a25), (.ref a25)]) := by
          intro z hz
          obtain ⟨v28, T28, L28, X28, hS28, hZ28, hown28, RC28, q28, st28⟩ := callCtH X27 hx hZ27 (y := (⟨"com/example/grantwell/grantwell/catalog/Grant", "<init>", "(Ljava/lang/String;Ljava/lang/String;Lcom/example/grantwell/grantwell/catalog/Action;Z)V"⟩ : MethodName)) rfl hown27 (hw _ w_58) (hw _ w_59) (hw _ w_30) (hw _ w_60) (by decide) (W := 1) (rmGr l Z a0 hw n0 T27.heap O27 a25 a24 a23 o27 z hz (A25.keep Kq27) (F25_grantee.keep Kq27 nin0) (F25_grantor.keep Kq27 nin0) (F25_action.keep Kq27 nin0) (F25_grantOption.keep Kq27 nin0) n25) (rfl : T27.heap = T27.heap) hS27 (Nat.le_refl T27.heap.size) hEL RR27.1 (by decide) (by decide) (by decide) (by decide) (g := (mkF m 224 #[.val (.int p0), .val (.int p1), .val (.long w0), .second, .val (.long w1), .second, .val (.int p6), .val (.int p7), .val (.int (p1 &&& (3 : Int32))), .val (.int x9), .val (.int (1 : Int32)), .val (.ref a21), .val (.int A0), .val (.int A1), .val (.int B0), .val (.int B1), .val (.int Lu), .val (.int Lg), .val (.ref a23), .val (.ref a24), .unset, .unset, .unset, .unset] [(.int z), (.ref o27), (.ref a23), (.ref a24), (.ref a25), (.ref a25)])) rfl (by rw [hml]; rfl) (a := a25) (argsL := [(.ref a24), (.ref a23), (.ref o27), (.int z)]) (rest := [(.ref a25)]) (lenOf pd_oLjava_lang_String_Ljava_lang_String_Lcom_example_grantwell_grantwell_catalog_Action_ZcV rfl) rfl (by show 2 * 0 + _ ≤ _; exact Nat.le_of_eq rfl) (hb hby at_224)
          obtain ⟨rfl, Nq28, Kq28, A28, F28⟩ := q28
          have N28 := Fr.app N27 Nq28
          have O28 := O27.keep Kq28 (allS n25 all0)
          have RR28 := RR27.trans RC28
          refine Fin.go st28 ?_
          have V28_a21 := (V27_a21.keep Kq28 (ninS (Nat.ne_of_lt (Nat.lt_of_lt_of_eq ((V22.keep Kq23 nin0).keep Kq24 nin0).lt g25.symm)) nin0))
          have Z28_a23 := ((((Z23.keep Kq24 all0).ext E25).keep Kq27 all0).keep Kq28 (allS (Nat.le_trans (Z23.keep Kq24 all0).le (Nat.le_of_eq g25.symm)) all0))
          have Z28_a24 := (((Z24.ext E25).keep Kq27 all0).keep Kq28 (allS (Nat.le_trans Z24.le (Nat.le_of_eq g25.symm)) all0))
          show Fin _ p e below s _ _ _ T28 (mkF m 227 #[.val (.int p0), .val (.int p1), .val (.long w0), .second, .val (.long w1), .second, .val (.int p6), .val (.int p7), .val (.int (p1 &&& (3 : Int32))), .val (.int x9), .val (.int (1 : Int32)), .val (.ref a21), .val (.int A0), .val (.int A1), .val (.int B0), .val (.int B1), .val (.int Lu), .val (.int Lg), .val (.ref a23), .val (.ref a24), .unset, .unset, .unset, .unset] [(.ref a25)])
          refine Fin.go (fun _ k => XS.astore X28.here hx rfl (hb hby at_227) rfl rfl (l' := #[.val (.int p0), .val (.int p1), .val (.long w0), .second, .val (.long w1), .second, .val (.int p6), .val (.int p7), .val (.int (p1 &&& (3 : Int32))), .val (.int x9), .val (.int (1 : Int32)), .val (.ref a21), .val (.int A0), .val (.int A1), .val (.int B0), .val (.int B1), .val (.int Lu), .val (.int Lg), .val (.ref a23), .val (.ref a24), .val (.ref a25), .unset, .unset, .unset]) rfl k) ?_
          obtain ⟨T29, h29, X29, e29, E29, A29, D29, U29, st29⟩ := newO X28 hx hZ28 hown28 (hw _ w_74) (hw _ w_75) (hw _ w_76) (rfl : T28.heap = T28.heap) (g := (mkF m 229 #[.val (.int p0), .val (.int p1), .val (.long w0), .second, .val (.long w1), .second, .val (.int p6), .val (.int p7), .val (.int (p1 &&& (3 : Int32))), .val (.int x9), .val (.int (1 : Int32)), .val (.ref a21), .val (.int A0), .val (.int A1), .val (.int B0), .val (.int B1), .val (.int Lu), .val (.int Lg), .val (.ref a23), .val (.ref a24), .val (.ref a25), .unset, .unset, .unset] [])) rfl (hb hby at_229) (by decide) (by decide)
          obtain ⟨a29, g29⟩ : ∃ z, z = T28.heap.size := ⟨_, rfl⟩
          rw [← g29] at A29 D29 U29 st29
          refine Fin.go st29 ?_
          have O29 := O28.ext E29
          have hk29 := Nat.le_trans (Nat.le_refl T28.heap.size) E29.1
          have RR29 := RR28.trans (CHr.ext E29 RR28.1)
          have n29 : n0 ≤ a29 := by have := O28.2.1; have := O28.1; omega
          have F29_user : Fld Z h29 a29 "com/example/grantwell/grantwell/engine/Principal" "user" "Ljava/lang/String;" .null := D29 (Or.inr (hw _ w_82)) (ty := (.object "java/lang/String")) (by decide)
          have F29_roles : Fld Z h29 a29 "com/example/grantwell/grantwell/engine/Principal" "roles" "Ljava/util/Set;" .null := D29 (Or.inr (hw _ w_84)) (ty := (.object "java/util/Set")) (by decide)
          have F29_numbered : Fld Z h29 a29 "com/example/grantwell/grantwell/engine/Principal" "numbered" "[J" .null := D29 (Or.inr (hw _ w_86)) (ty := (.array .long)) (by decide)
          show Fin _ p e below s _ _ _ T29 (mkF m 232 #[.val (.int p0), .val (.int p1), .val (.long w0), .second, .val (.long w1), .second, .val (.int p6), .val (.int p7), .val (.int (p1 &&& (3 : Int32))), .val (.int x9), .val (.int (1 : Int32)), .val (.ref a21), .val (.int A0), .val (.int A1), .val (.int B0), .val (.int B1), .val (.int Lu), .val (.int Lg), .val (.ref a23), .val (.ref a24), .val (.ref a25), .unset, .unset, .unset] [(.ref a29)])
          refine Fin.go (fun _ k => XS.dup X29.here hx rfl (hb hby at_232) rfl rfl k) ?_
          refine Fin.go (fun _ k => XS.aload X29.here hx rfl (hb hby at_233) rfl rfl k) ?_
          refine Fin.go (fun _ k => XS.aconstNull X29.here hx rfl (hb hby at_235) k) ?_
          refine Fin.go (fun _ k => XS.aload X29.here hx rfl (hb hby at_236) rfl rfl k) ?_
          show Fin _ p e below s _ _ _ T29 (mkF m 238 #[.val (.int p0), .val (.int p1), .val (.long w0), .second, .val (.long w1), .second, .val (.int p6), .val (.int p7), .val (.int (p1 &&& (3 : Int32))), .val (.int x9), .val (.int (1 : Int32)), .val (.ref a21), .val (.int A0), .val (.int A1), .val (.int B0), .val (.int B1), .val (.int Lu), .val (.int Lg), .val (.ref a23), .val (.ref a24), .val (.ref a25), .unset, .unset, .unset] [(.ref a21), .null, (.ref a23), (.ref a29), (.ref a29)])
          obtain ⟨v30, T30, L30, X30, q30, st30⟩ := callCt X29 hx hZ28 (y := (⟨"com/example/grantwell/grantwell/engine/Principal", "<init>", "(Ljava/lang/String;Ljava/util/Set;[J)V"⟩ : MethodName)) rfl hown28 (hw _ w_77) (hw _ w_78) (hw _ w_76) (hw _ w_79) (by decide) (W := 1) (rmPr l Z a0 hw n0 h29 O29 a29 a23 a21 A29 F29_user F29_roles F29_numbered n29) e29 (by decide) (by decide) (by decide) (by decide) (g := (mkF m 238 #[.val (.int p0), .val (.int p1), .val (.long w0), .second, .val (.long w1), .second, .val (.int p6), .val (.int p7), .val (.int (p1 &&& (3 : Int32))), .val (.int x9), .val (.int (1 : Int32)), .val (.ref a21), .val (.int A0), .val (.int A1), .val (.int B0), .val (.int B1), .val (.int Lu), .val (.int Lg), .val (.ref a23), .val (.ref a24), .val (.ref a25), .unset, .unset, .unset] [(.ref a21), .null, (.ref a23), (.ref a29), (.ref a29)])) rfl (by rw [hml]; rfl) (a := a29) (argsL := [(.ref a23), .null, (.ref a21)]) (rest := [(.ref a29)]) (lenOf pd_oLjava_lang_String_Ljava_util_Set_AJcV rfl) rfl (by show 2 * 0 + _ ≤ _; exact Nat.le_of_eq rfl) (hb hby at_238)
          obtain ⟨rfl, Nq30, Kq30, A30, F130, F230⟩ := q30
          have N30 := Fr.app N28 Nq30
          have O30 := O29.keep Kq30 (allS n29 all0)
          have RR30 := RR29.trans (CHr.keep Kq30 (sfS (Safe.exa hZ28.alike A29 (by decide) (by decide)) sf0) RR29.1)
          have hk30 := Nat.le_trans hk29 Kq30.1
          refine Fin.go st30 ?_
          have V30_a21 := ((V28_a21.ext E29).keep Kq30 (ninS (Nat.ne_of_lt (Nat.lt_of_lt_of_eq V28_a21.lt g29.symm)) nin0))
          have Z30_a23 := ((Z28_a23.ext E29).keep Kq30 (allS (Nat.le_trans Z28_a23.le (Nat.le_of_eq g29.symm)) all0))
          have Z30_a24 := ((Z28_a24.ext E29).keep Kq30 (allS (Nat.le_trans Z28_a24.le (Nat.le_of_eq g29.symm)) all0))
          have F30_a25_grantee := ((F28.ext E29).keep Kq30 (ninS (Nat.ne_of_lt (Nat.lt_of_lt_of_eq A28.lt g29.symm)) nin0))
          show Fin _ p e below s _ _ _ T30 (mkF m 241 #[.val (.int p0), .val (.int p1), .val (.long w0), .second, .val (.long w1), .second, .val (.int p6), .val (.int p7), .val (.int (p1 &&& (3 : Int32))), .val (.int x9), .val (.int (1 : Int32)), .val (.ref a21), .val (.int A0), .val (.int A1), .val (.int B0), .val (.int B1), .val (.int Lu), .val (.int Lg), .val (.ref a23), .val (.ref a24), .val (.ref a25), .unset, .unset, .unset] [(.ref a29)])
          refine Fin.go (fun _ k => XS.astore X30.here hx rfl (hb hby at_241) rfl rfl (l' := #[.val (.int p0), .val (.int p1), .val (.long w0), .second, .val (.long w1), .second, .val (.int p6), .val (.int p7), .val (.int (p1 &&& (3 : Int32))), .val (.int x9), .val (.int (1 : Int32)), .val (.ref a21), .val (.int A0), .val (.int A1), .val (.int B0), .val (.int B1), .val (.int Lu), .val (.int Lg), .val (.ref a23), .val (.ref a24), .val (.ref a25), .val (.ref a29), .unset, .unset]) rfl k) ?_
          refine Fin.go (fun _ k => XS.aload X30.here hx rfl (hb hby at_243) rfl rfl k) ?_
          refine Fin.go (fun _ k => XS.iload X30.here hx rfl (hb hby at_245) rfl k) ?_
          refine Fin.go (fun _ k => XS.aload X30.here hx rfl (hb hby at_247) rfl rfl k) ?_
          show Fin _ p e below s _ _ _ T30 (mkF m 249 #[.val (.int p0), .val (.int p1), .val (.long w0), .second, .val (.long w1), .second, .val (.int p6), .val (.int p7), .val (.int (p1 &&& (3 : Int32))), .val (.int x9), .val (.int (1 : Int32)), .val (.ref a21), .val (.int A0), .val (.int A1), .val (.int B0), .val (.int B1), .val (.int Lu), .val (.int Lg), .val (.ref a23), .val (.ref a24), .val (.ref a25), .val (.ref a29), .unset, .unset] [(.ref a25), (.int x9), (.ref a29)])
          obtain ⟨v31, T31, L31, X31, q31, st31⟩ := callVt X30 hx hZ28 (y := (⟨"com/example/grantwell/grantwell/engine/Principal", "counts", "(ILcom/example/grantwell/grantwell/catalog/Grant;)Z"⟩ : MethodName)) hown28 (hw _ w_87) (hw _ w_88) (hw _ w_90) (hw _ w_89) (hw _ w_76) (hw _ w_91) (by decide) (W := 0) (rmCnt1 l Z a0 hw n0 T30.heap O30 a29 a25 a24 a23 a21 k21 x9 (strL Lg B0 B1) (strL Lu A0 A1) T24.heap.size T23.heap.size w0 cs S_cs hcs (Ne.symm (Nat.ne_of_lt (Nat.lt_of_lt_of_le Z23.lt zd24))) (strL_len _ _ _) (strL_len _ _ _) ((A28.ext E29).keep Kq30) F30_a25_grantee F130 F230 Z30_a24 Z30_a23 V30_a21) (rfl : T30.heap = T30.heap) A30 (by decide) (by decide) (by decide) (by decide) (g := (mkF m 249 #[.val (.int p0), .val (.int p1), .val (.long w0), .second, .val (.long w1), .second, .val (.int p6), .val (.int p7), .val (.int (p1 &&& (3 : Int32))), .val (.int x9), .val (.int (1 : Int32)), .val (.ref a21), .val (.int A0), .val (.int A1), .val (.int B0), .val (.int B1), .val (.int Lu), .val (.int Lg), .val (.ref a23), .val (.ref a24), .val (.ref a25), .val (.ref a29), .unset, .unset] [(.ref a25), (.int x9), (.ref a29)])) rfl (by rw [hml]; rfl) (argsL := [(.int x9), (.ref a25)]) (rest := []) (lenOf pd_oILcom_example_grantwell_grantwell_catalog_Grant_cZ rfl) rfl (by show 2 * 0 + _ ≤ _; exact Nat.le_of_eq rfl) (hb hby at_249)
          obtain ⟨rfl, e31, rfl⟩ := q31
          have N31 := Fr.app N30 (Fr.nil n0)
          refine Fin.go st31 ?_
          show Fin _ p e below s _ _ _ T31 (mkF m 252 #[.val (.int p0), .val (.int p1), .val (.long w0), .second, .val (.long w1), .second, .val (.int p6), .val (.int p7), .val (.int (p1 &&& (3 : Int32))), .val (.int x9), .val (.int (1 : Int32)), .val (.ref a21), .val (.int A0), .val (.int A1), .val (.int B0), .val (.int B1), .val (.int Lu), .val (.int Lg), .val (.ref a23), .val (.ref a24), .val (.ref a25), .val (.ref a29), .unset, .unset] [(.int (cnt1 x9 (eqI (strL Lg B0 B1) (strL Lu A0 A1)) w0))])
          refine Fin.go (fun _ k => XS.istore X31.here hx rfl (hb hby at_252) rfl (l' := #[.val (.int p0), .val (.int p1), .val (.long w0), .second, .val (.long w1), .second, .val (.int p6), .val (.int p7), .val (.int (p1 &&& (3 : Int32))), .val (.int x9), .val (.int (1 : Int32)), .val (.ref a21), .val (.int A0), .val (.int A1), .val (.int B0), .val (.int B1), .val (.int Lu), .val (.int Lg), .val (.ref a23), .val (.ref a24), .val (.ref a25), .val (.ref a29), .val (.int (cnt1 x9 (eqI (strL Lg B0 B1) (strL Lu A0 A1)) w0)), .unset]) rfl k) ?_
          refine Fin.go (fun _ k => XS.iload X31.here hx rfl (hb hby at_254) rfl k) ?_
          refine Fin.go (fun _ k => XS.iconst X31.here hx rfl (hb hby at_256) k) ?_
          by_cases c257 : x9 = (-1 : Int32)
          · refine Fin.go (fun _ k => XS.icmpNo X31.here hx rfl (hb hby at_257) rfl (XT.ii_ne_f c257) k) ?_
            show Fin _ p e below s _ _ _ T31 (mkF m 260 #[.val (.int p0), .val (.int p1), .val (.long w0), .second, .val (.long w1), .second, .val (.int p6), .val (.int p7), .val (.int (p1 &&& (3 : Int32))), .val (.int x9), .val (.int (1 : Int32)), .val (.ref a21), .val (.int A0), .val (.int A1), .val (.int B0), .val (.int B1), .val (.int Lu), .val (.int Lg), .val (.ref a23), .val (.ref a24), .val (.ref a25), .val (.ref a29), .val (.int (cnt1 x9 (eqI (strL Lg B0 B1) (strL Lu A0 A1)) w0)), .unset] [])
            refine Fin.go (fun _ k => XS.iload X31.here hx rfl (hb hby at_260) rfl k) ?_
            refine Fin.go (fun _ k => XS.iload X31.here hx rfl (hb hby at_262) rfl k) ?_
            by_cases c264 : Lu = Lg
            · refine Fin.go (fun _ k => XS.icmpNo X31.here hx rfl (hb hby at_264) rfl (XT.ii_ne_f c264) k) ?_
              show Fin _ p e below s _ _ _ T31 (mkF m 267 #[.val (.int p0), .val (.int p1), .val (.long w0), .second, .val (.long w1), .second, .val (.int p6), .val (.int p7), .val (.int (p1 &&& (3 : Int32))), .val (.int x9), .val (.int (1 : Int32)), .val (.ref a21), .val (.int A0), .val (.int A1), .val (.int B0), .val (.int B1), .val (.int Lu), .val (.int Lg), .val (.ref a23), .val (.ref a24), .val (.ref a25), .val (.ref a29), .val (.int (cnt1 x9 (eqI (strL Lg B0 B1) (strL Lu A0 A1)) w0)), .unset] [])
              refine Fin.go (fun _ k => XS.iload X31.here hx rfl (hb hby at_267) rfl k) ?_
              refine Fin.go (fun _ k => XS.iconst X31.here hx rfl (hb hby at_269) k) ?_
              by_cases c270 : Lu < (1 : Int32)
              · refine Fin.go (fun _ k => XS.icmpYes X31.here hx rfl (pc0 := 270) (pc' := 280) rfl (hb hby at_270) rfl (XT.ii_lt_t c270) (by decide) (by decide) k) ?_
                show Fin _ p e below s _ _ _ T31 (mkF m 280 #[.val (.int p0), .val (.int p1), .val (.long w0), .second, .val (.long w1), .second, .val (.int p6), .val (.int p7), .val (.int (p1 &&& (3 : Int32))), .val (.int x9), .val (.int (1 : Int32)), .val (.ref a21), .val (.int A0), .val (.int A1), .val (.int B0), .val (.int B1), .val (.int Lu), .val (.int Lg), .val (.ref a23), .val (.ref a24), .val (.ref a25), .val (.ref a29), .val (.int (cnt1 x9 (eqI (strL Lg B0 B1) (strL Lu A0 A1)) w0)), .unset] [])
                refine Fin.go (fun _ k => XS.iload X31.here hx rfl (hb hby at_280) rfl k) ?_
                refine Fin.go (fun _ k => XS.iconst X31.here hx rfl (hb hby at_282) k) ?_
                by_cases c283 : Lu < (2 : Int32)
                · refine Fin.go (fun _ k => XS.icmpYes X31.here hx rfl (pc0 := 283) (pc' := 293) rfl (hb hby at_283) rfl (XT.ii_lt_t c283) (by decide) (by decide) k) ?_
                  show Fin _ p e below s _ _ _ T31 (mkF m 293 #[.val (.int p0), .val (.int p1), .val (.long w0), .second, .val (.long w1), .second, .val (.int p6), .val (.int p7), .val (.int (p1 &&& (3 : Int32))), .val (.int x9), .val (.int (1 : Int32)), .val (.ref a21), .val (.int A0), .val (.int A1), .val (.int B0), .val (.int B1), .val (.int Lu), .val (.int Lg), .val (.ref a23), .val (.ref a24), .val (.ref a25), .val (.ref a29), .val (.int (cnt1 x9 (eqI (strL Lg B0 B1) (strL Lu A0 A1)) w0)), .unset] [])
                  refine Fin.go (fun _ k => XS.iconst X31.here hx rfl (hb hby at_293) k) ?_
                  refine Fin.go (fun _ k => XS.goto X31.here hx rfl (pc0 := 294) (pc' := 298) rfl (hb hby at_294) (by decide) (by decide) k) ?_
                  refine Fin.go (fun _ k => XS.istore X31.here hx rfl (hb hby at_298) rfl (l' := #[.val (.int p0), .val (.int p1), .val (.long w0), .second, .val (.long w1), .second, .val (.int p6), .val (.int p7), .val (.int (p1 &&& (3 : Int32))), .val (.int x9), .val (.int (1 : Int32)), .val (.ref a21), .val (.int A0), .val (.int A1), .val (.int B0), .val (.int B1), .val (.int Lu), .val (.int Lg), .val (.ref a23), .val (.ref a24), .val (.ref a25), .val (.ref a29), .val (.int (cnt1 x9 (eqI (strL Lg B0 B1) (strL Lu A0 A1)) w0)), .val (.int (1 : Int32))]) rfl k) ?_
                  refine Fin.go (fun _ k => XS.goto X31.here hx rfl (pc0 := 300) (pc' := 390) rfl (hb hby at_300) (by decide) (by decide) k) ?_
                  show Fin _ p e below s _ _ _ T31 (mkF m 390 #[.val (.int p0), .val (.int p1), .val (.long w0), .second, .val (.long w1), .second, .val (.int p6), .val (.int p7), .val (.int (p1 &&& (3 : Int32))), .val (.int x9), .val (.int (1 : Int32)), .val (.ref a21), .val (.int A0), .val (.int A1), .val (.int B0), .val (.int B1), .val (.int Lu), .val (.int Lg), .val (.ref a23), .val (.ref a24), .val (.ref a25), .val (.ref a29), .val (.int (cnt1 x9 (eqI (strL Lg B0 B1) (strL Lu A0 A1)) w0)), .val (.int (1 : Int32))] [])
                  refine Fin.go (fun _ k => XS.iload X31.here hx rfl (hb hby at_390) rfl k) ?_
                  refine Fin.go (fun _ k => XS.iload X31.here hx rfl (hb hby at_392) rfl k) ?_
                  refine Fin.go (fun _ k => XS.icmpNo X31.here hx rfl (hb hby at_394) rfl (XT.ii_ne_f (by rw [show cnt1 x9 (eqI (strL Lg B0 B1) (strL Lu A0 A1)) w0 = eqI (strL Lg B0 B1) (strL Lu A0 A1) from if_pos c257, eq_fin hLu hLg rA0 rA1 rB0 rB1]; exact if_pos ⟨c264, Or.inl c270, Or.inl c283⟩)) k) ?_
                  show Fin _ p e below s _ _ _ T31 (mkF m 397 #[.val (.int p0), .val (.int p1), .val (.long w0), .second, .val (.long w1), .second, .val (.int p6), .val (.int p7), .val (.int (p1 &&& (3 : Int32))), .val (.int x9), .val (.int (1 : Int32)), .val (.ref a21), .val (.int A0), .val (.int A1), .val (.int B0), .val (.int B1), .val (.int Lu), .val (.int Lg), .val (.ref a23), .val (.ref a24), .val (.ref a25), .val (.ref a29), .val (.int (cnt1 x9 (eqI (strL Lg B0 B1) (strL Lu A0 A1)) w0)), .val (.int (1 : Int32))] [])
                  refine Fin.go (fun _ k => XS.iconst X31.here hx rfl (hb hby at_397) k) ?_
                  refine Fin.go (fun _ k => XS.goto X31.here hx rfl (pc0 := 398) (pc' := 402) rfl (hb hby at_398) (by decide) (by decide) k) ?_
                  exact Fin.leaveH X31 hS28 hk30 hZ28 hEL e31 RR30 hlk (v := some (.int (nar .boolean (1 : Int32)))) (fun h => by rw [hret] at h; cases h) (by decide) (by decide) ⟨rfl, N31⟩ (fun fs hr => retN X31 hx (t := .boolean) hret (by simp) (hb hby at_402) hr)
                · refine Fin.go (fun _ k => XS.icmpNo X31.here hx rfl (hb hby at_283) rfl (XT.ii_lt_f c283) k) ?_
                  show Fin _ p e below s _ _ _ T31 (mkF m 286 #[.val (.int p0), .val (.int p1), .val (.long w0), .second, .val (.long w1), .second, .val (.int p6), .val (.int p7), .val (.int (p1 &&& (3 : Int32))), .val (.int x9), .val (.int (1 : Int32)), .val (.ref a21), .val (.int A0), .val (.int A1), .val (.int B0), .val (.int B1), .val (.int Lu), .val (.int Lg), .val (.ref a23), .val (.ref a24), .val (.ref a25), .val (.ref a29), .val (.int (cnt1 x9 (eqI (strL Lg B0 B1) (strL Lu A0 A1)) w0)), .unset] [])
                  refine Fin.go (fun _ k => XS.iload X31.here hx rfl (hb hby at_286) rfl k) ?_
                  refine Fin.go (fun _ k => XS.iload X31.here hx rfl (hb hby at_288) rfl k) ?_
                  by_cases c290 : A1 = B1
                  · refine Fin.go (fun _ k => XS.icmpNo X31.here hx rfl (hb hby at_290) rfl (XT.ii_ne_f c290) k) ?_
                    show Fin _ p e below s _ _ _ T31 (mkF m 293 #[.val (.int p0), .val (.int p1), .val (.long w0), .second, .val (.long w1), .second, .val (.int p6), .val (.int p7), .val (.int (p1 &&& (3 : Int32))), .val (.int x9), .val (.int (1 : Int32)), .val (.ref a21), .val (.int A0), .val (.int A1), .val (.int B0), .val (.int B1), .val (.int Lu), .val (.int Lg), .val (.ref a23), .val (.ref a24), .val (.ref a25), .val (.ref a29), .val (.int (cnt1 x9 (eqI (strL Lg B0 B1) (strL Lu A0 A1)) w0)), .unset] [])
                    refine Fin.go (fun _ k => XS.iconst X31.here hx rfl (hb hby at_293) k) ?_
                    refine Fin.go (fun _ k => XS.goto X31.here hx rfl (pc0 := 294) (pc' := 298) rfl (hb hby at_294) (by decide) (by decide) k) ?_
                    refine Fin.go (fun _ k => XS.istore X31.here hx rfl (hb hby at_298) rfl (l' := #[.val (.int p0), .val (.int p1), .val (.long w0), .second, .val (.long w1), .second, .val (.int p6), .val (.int p7), .val (.int (p1 &&& (3 : Int32))), .val (.int x9), .val (.int (1 : Int32)), .val (.ref a21), .val (.int A0), .val (.int A1), .val (.int B0), .val (.int B1), .val (.int Lu), .val (.int Lg), .val (.ref a23), .val (.ref a24), .val (.ref a25), .val (.ref a29), .val (.int (cnt1 x9 (eqI (strL Lg B0 B1) (strL Lu A0 A1)) w0)), .val (.int (1 : Int32))]) rfl k) ?_
                    refine Fin.go (fun _ k => XS.goto X31.here hx rfl (pc0 := 300) (pc' := 390) rfl (hb hby at_300) (by decide) (by decide) k) ?_
                    show Fin _ p e below s _ _ _ T31 (mkF m 390 #[.val (.int p0), .val (.int p1), .val (.long w0), .second, .val (.long w1), .second, .val (.int p6), .val (.int p7), .val (.int (p1 &&& (3 : Int32))), .val (.int x9), .val (.int (1 : Int32)), .val (.ref a21), .val (.int A0), .val (.int A1), .val (.int B0), .val (.int B1), .val (.int Lu), .val (.int Lg), .val (.ref a23), .val (.ref a24), .val (.ref a25), .val (.ref a29), .val (.int (cnt1 x9 (eqI (strL Lg B0 B1) (strL Lu A0 A1)) w0)), .val (.int (1 : Int32))] [])
                    refine Fin.go (fun _ k => XS.iload X31.here hx rfl (hb hby at_390) rfl k) ?_
                    refine Fin.go (fun _ k => XS.iload X31.here hx rfl (hb hby at_392) rfl k) ?_
                    refine Fin.go (fun _ k => XS.icmpNo X31.here hx rfl (hb hby at_394) rfl (XT.ii_ne_f (by rw [show cnt1 x9 (eqI (strL Lg B0 B1) (strL Lu A0 A1)) w0 = eqI (strL Lg B0 B1) (strL Lu A0 A1) from if_pos c257, eq_fin hLu hLg rA0 rA1 rB0 rB1]; exact if_pos ⟨c264, Or.inl c270, Or.inr c290⟩)) k) ?_
                    show Fin _ p e below s _ _ _ T31 (mkF m 397 #[.val (.int p0), .val (.int p1), .val (.long w0), .second, .val (.long w1), .second, .val (.int p6), .val (.int p7), .val (.int (p1 &&& (3 : Int32))), .val (.int x9), .val (.int (1 : Int32)), .val (.ref a21), .val (.int A0), .val (.int A1), .val (.int B0), .val (.int B1), .val (.int Lu), .val (.int Lg), .val (.ref a23), .val (.ref a24), .val (.ref a25), .val (.ref a29), .val (.int (cnt1 x9 (eqI (strL Lg B0 B1) (strL Lu A0 A1)) w0)), .val (.int (1 : Int32))] [])
                    refine Fin.go (fun _ k => XS.iconst X31.here hx rfl (hb hby at_397) k) ?_
                    refine Fin.go (fun _ k => XS.goto X31.here hx rfl (pc0 := 398) (pc' := 402) rfl (hb hby at_398) (by decide) (by decide) k) ?_
                    exact Fin.leaveH X31 hS28 hk30 hZ28 hEL e31 RR30 hlk (v := some (.int (nar .boolean (1 : Int32)))) (fun h => by rw [hret] at h; cases h) (by decide) (by decide) ⟨rfl, N31⟩ (fun fs hr => retN X31 hx (t := .boolean) hret (by simp) (hb hby at_402) hr)
                  · refine Fin.go (fun _ k => XS.icmpYes X31.here hx rfl (pc0 := 290) (pc' := 297) rfl (hb hby at_290) rfl (XT.ii_ne_t c290) (by decide) (by decide) k) ?_
                    show Fin _ p e below s _ _ _ T31 (mkF m 297 #[.val (.int p0), .val (.int p1), .val (.long w0), .second, .val (.long w1), .second, .val (.int p6), .val (.int p7), .val (.int (p1 &&& (3 : Int32))), .val (.int x9), .val (.int (1 : Int32)), .val (.ref a21), .val (.int A0), .val (.int A1), .val (.int B0), .val (.int B1), .val (.int Lu), .val (.int Lg), .val (.ref a23), .val (.ref a24), .val (.ref a25), .val (.ref a29), .val (.int (cnt1 x9 (eqI (strL Lg B0 B1) (strL Lu A0 A1)) w0)), .unset] [])
                    refine Fin.go (fun _ k => XS.iconst X31.here hx rfl (hb hby at_297) k) ?_
                    refine Fin.go (fun _ k => XS.istore X31.here hx rfl (hb hby at_298) rfl (l' := #[.val (.int p0), .val (.int p1), .val (.long w0), .second, .val (.long w1), .second, .val (.int p6), .val (.int p7), .val (.int (p1 &&& (3 : Int32))), .val (.int x9), .val (.int (1 : Int32)), .val (.ref a21), .val (.int A0), .val (.int A1), .val (.int B0), .val (.int B1), .val (.int Lu), .val (.int Lg), .val (.ref a23), .val (.ref a24), .val (.ref a25), .val (.ref a29), .val (.int (cnt1 x9 (eqI (strL Lg B0 B1) (strL Lu A0 A1)) w0)), .val (.int (0 : Int32))]) rfl k) ?_
                    refine Fin.go (fun _ k => XS.goto X31.here hx rfl (pc0 := 300) (pc' := 390) rfl (hb hby at_300) (by decide) (by decide) k) ?_
                    refine Fin.go (fun _ k => XS.iload X31.here hx rfl (hb hby at_390) rfl k) ?_
                    show Fin _ p e below s _ _ _ T31 (mkF m 392 #[.val (.int p0), .val (.int p1), .val (.long w0), .second, .val (.long w1), .second, .val (.int p6), .val (.int p7), .val (.int (p1 &&& (3 : Int32))), .val (.int x9), .val (.int (1 : Int32)), .val (.ref a21), .val (.int A0), .val (.int A1), .val (.int B0), .val (.int B1), .val (.int Lu), .val (.int Lg), .val (.ref a23), .val (.ref a24), .val (.ref a25), .val (.ref a29), .val (.int (cnt1 x9 (eqI (strL Lg B0 B1) (strL Lu A0 A1)) w0)), .val (.int (0 : Int32))] [(.int (cnt1 x9 (eqI (strL Lg B0 B1) (strL Lu A0 A1)) w0))])
                    refine Fin.go (fun _ k => XS.iload X31.here hx rfl (hb hby at_392) rfl k) ?_
                    refine Fin.go (fun _ k => XS.icmpNo X31.here hx rfl (hb hby at_394) rfl (XT.ii_ne_f (by rw [show cnt1 x9 (eqI (strL Lg B0 B1) (strL Lu A0 A1)) w0 = eqI (strL Lg B0 B1) (strL Lu A0 A1) from if_pos c257, eq_fin hLu hLg rA0 rA1 rB0 rB1]; exact if_neg (fun h => h.2.2.elim c283 c290))) k) ?_
                    show Fin _ p e below s _ _ _ T31 (mkF m 397 #[.val (.int p0), .val (.int p1), .val (.long w0), .second, .val (.long w1), .second, .val (.int p6), .val (.int p7), .val (.int (p1 &&& (3 : Int32))), .val (.int x9), .val (.int (1 : Int32)), .val (.ref a21), .val (.int A0), .val (.int A1), .val (.int B0), .val (.int B1), .val (.int Lu), .val (.int Lg), .val (.ref a23), .val (.ref a24), .val (.ref a25), .val (.ref a29), .val (.int (cnt1 x9 (eqI (strL Lg B0 B1) (strL Lu A0 A1)) w0)), .val (.int (0 : Int32))] [])
                    refine Fin.go (fun _ k => XS.iconst X31.here hx rfl (hb hby at_397) k) ?_
                    refine Fin.go (fun _ k => XS.goto X31.here hx rfl (pc0 := 398) (pc' := 402) rfl (hb hby at_398) (by decide) (by decide) k) ?_
                    exact Fin.leaveH X31 hS28 hk30 hZ28 hEL e31 RR30 hlk (v := some (.int (nar .boolean (1 : Int32)))) (fun h => by rw [hret] at h; cases h) (by decide) (by decide) ⟨rfl, N31⟩ (fun fs hr => retN X31 hx (t := .boolean) hret (by simp) (hb hby at_402) hr)
              · refine Fin.go (fun _ k => XS.icmpNo X31.here hx rfl (hb hby at_270) rfl (XT.ii_lt_f c270) k) ?_
                show Fin _ p e below s _ _ _ T31 (mkF m 273 #[.val (.int p0), .val (.int p1), .val (.long w0), .second, .val (.long w1), .second, .val (.int p6), .val (.int p7), .val (.int (p1 &&& (3 : Int32))), .val (.int x9), .val (.int (1 : Int32)), .val (.ref a21), .val (.int A0), .val (.int A1), .val (.int B0), .val (.int B1), .val (.int Lu), .val (.int Lg), .val (.ref a23), .val (.ref a24), .val (.ref a25), .val (.ref a29), .val (.int (cnt1 x9 (eqI (strL Lg B0 B1) (strL Lu A0 A1)) w0)), .unset] [])
                refine Fin.go (fun _ k => XS.iload X31.here hx rfl (hb hby at_273) rfl k) ?_
                refine Fin.go (fun _ k => XS.iload X31.here hx rfl (hb hby at_275) rfl k) ?_
                by_cases c277 : A0 = B0
                · refine Fin.go (fun _ k => XS.icmpNo X31.here hx rfl (hb hby at_277) rfl (XT.ii_ne_f c277) k) ?_
                  show Fin _ p e below s _ _ _ T31 (mkF m 280 #[.val (.int p0), .val (.int p1), .val (.long w0), .second, .val (.long w1), .second, .val (.int p6), .val (.int p7), .val (.int (p1 &&& (3 : Int32))), .val (.int x9), .val (.int (1 : Int32)), .val (.ref a21), .val (.int A0), .val (.int A1), .val (.int B0), .val (.int B1), .val (.int Lu), .val (.int Lg), .val (.ref a23), .val (.ref a24), .val (.ref a25), .val (.ref a29), .val (.int (cnt1 x9 (eqI (strL Lg B0 B1) (strL Lu A0 A1)) w0)), .unset] [])
                  refine Fin.go (fun _ k => XS.iload X31.here hx rfl (hb hby at_280) rfl k) ?_
                  refine Fin.go (fun _ k => XS.iconst X31.here hx rfl (hb hby at_282) k) ?_
                  by_cases c283 : Lu < (2 : Int32)
                  · refine Fin.go (fun _ k => XS.icmpYes X31.here hx rfl (pc0 := 283) (pc' := 293) rfl (hb hby at_283) rfl (XT.ii_lt_t c283) (by decide) (by decide) k) ?_
                    show Fin _ p e below s _ _ _ T31 (mkF m 293 #[.val (.int p0), .val (.int p1), .val (.long w0), .second, .val (.long w1), .second, .val (.int p6), .val (.int p7), .val (.int (p1 &&& (3 : Int32))), .val (.int x9), .val (.int (1 : Int32)), .val (.ref a21), .val (.int A0), .val (.int A1), .val (.int B0), .val (.int B1), .val (.int Lu), .val (.int Lg), .val (.ref a23), .val (.ref a24), .val (.ref a25), .val (.ref a29), .val (.int (cnt1 x9 (eqI (strL Lg B0 B1) (strL Lu A0 A1)) w0)), .unset] [])
                    refine Fin.go (fun _ k => XS.iconst X31.here hx rfl (hb hby at_293) k) ?_
                    refine Fin.go (fun _ k => XS.goto X31.here hx rfl (pc0 := 294) (pc' := 298) rfl (hb hby at_294) (by decide) (by decide) k) ?_
                    refine Fin.go (fun _ k => XS.istore X31.here hx rfl (hb hby at_298) rfl (l' := #[.val (.int p0), .val (.int p1), .val (.long w0), .second, .val (.long w1), .second, .val (.int p6), .val (.int p7), .val (.int (p1 &&& (3 : Int32))), .val (.int x9), .val (.int (1 : Int32)), .val (.ref a21), .val (.int A0), .val (.int A1), .val (.int B0), .val (.int B1), .val (.int Lu), .val (.int Lg), .val (.ref a23), .val (.ref a24), .val (.ref a25), .val (.ref a29), .val (.int (cnt1 x9 (eqI (strL Lg B0 B1) (strL Lu A0 A1)) w0)), .val (.int (1 : Int32))]) rfl k) ?_
                    refine Fin.go (fun _ k => XS.goto X31.here hx rfl (pc0 := 300) (pc' := 390) rfl (hb hby at_300) (by decide) (by decide) k) ?_
                    show Fin _ p e below s _ _ _ T31 (mkF m 390 #[.val (.int p0), .val (.int p1), .val (.long w0), .second, .val (.long w1), .second, .val (.int p6), .val (.int p7), .val (.int (p1 &&& (3 : Int32))), .val (.int x9), .val (.int (1 : Int32)), .val (.ref a21), .val (.int A0), .val (.int A1), .val (.int B0), .val (.int B1), .val (.int Lu), .val (.int Lg), .val (.ref a23), .val (.ref a24), .val (.ref a25), .val (.ref a29), .val (.int (cnt1 x9 (eqI (strL Lg B0 B1) (strL Lu A0 A1)) w0)), .val (.int (1 : Int32))] [])
                    refine Fin.go (fun _ k => XS.iload X31.here hx rfl (hb hby at_390) rfl k) ?_
                    refine Fin.go (fun _ k => XS.iload X31.here hx rfl (hb hby at_392) rfl k) ?_
                    refine Fin.go (fun _ k => XS.icmpNo X31.here hx rfl (hb hby at_394) rfl (XT.ii_ne_f (by rw [show cnt1 x9 (eqI (strL Lg B0 B1) (strL Lu A0 A1)) w0 = eqI (strL Lg B0 B1) (strL Lu A0 A1) from if_pos c257, eq_fin hLu hLg rA0 rA1 rB0 rB1]; exact if_pos ⟨c264, Or.inr c277, Or.inl c283⟩)) k) ?_
                    show Fin _ p e below s _ _ _ T31 (mkF m 397 #[.val (.int p0), .val (.int p1), .val (.long w0), .second, .val (.long w1), .second, .val (.int p6), .val (.int p7), .val (.int (p1 &&& (3 : Int32))), .val (.int x9), .val (.int (1 : Int32)), .val (.ref a21), .val (.int A0), .val (.int A1), .val (.int B0), .val (.int B1), .val (.int Lu), .val (.int Lg), .val (.ref a23), .val (.ref a24), .val (.ref a25), .val (.ref a29), .val (.int (cnt1 x9 (eqI (strL Lg B0 B1) (strL Lu A0 A1)) w0)), .val (.int (1 : Int32))] [])
                    refine Fin.go (fun _ k => XS.iconst X31.here hx rfl (hb hby at_397) k) ?_
                    refine Fin.go (fun _ k => XS.goto X31.here hx rfl (pc0 := 398) (pc' := 402) rfl (hb hby at_398) (by decide) (by decide) k) ?_
                    exact Fin.leaveH X31 hS28 hk30 hZ28 hEL e31 RR30 hlk (v := some (.int (nar .boolean (1 : Int32)))) (fun h => by rw [hret] at h; cases h) (by decide) (by decide) ⟨rfl, N31⟩ (fun fs hr => retN X31 hx (t := .boolean) hret (by simp) (hb hby at_402) hr)
                  · refine Fin.go (fun _ k => XS.icmpNo X31.here hx rfl (hb hby at_283) rfl (XT.ii_lt_f c283) k) ?_
                    show Fin _ p e below s _ _ _ T31 (mkF m 286 #[.val (.int p0), .val (.int p1), .val (.long w0), .second, .val (.long w1), .second, .val (.int p6), .val (.int p7), .val (.int (p1 &&& (3 : Int32))), .val (.int x9), .val (.int (1 : Int32)), .val (.ref a21), .val (.int A0), .val (.int A1), .val (.int B0), .val (.int B1), .val (.int Lu), .val (.int Lg), .val (.ref a23), .val (.ref a24), .val (.ref a25), .val (.ref a29), .val (.int (cnt1 x9 (eqI (strL Lg B0 B1) (strL Lu A0 A1)) w0)), .unset] [])
                    refine Fin.go (fun _ k => XS.iload X31.here hx rfl (hb hby at_286) rfl k) ?_
                    refine Fin.go (fun _ k => XS.iload X31.here hx rfl (hb hby at_288) rfl k) ?_
                    by_cases c290 : A1 = B1
                    · refine Fin.go (fun _ k => XS.icmpNo X31.here hx rfl (hb hby at_290) rfl (XT.ii_ne_f c290) k) ?_
                      show Fin _ p e below s _ _ _ T31 (mkF m 293 #[.val (.int p0), .val (.int p1), .val (.long w0), .second, .val (.long w1), .second, .val (.int p6), .val (.int p7), .val (.int (p1 &&& (3 : Int32))), .val (.int x9), .val (.int (1 : Int32)), .val (.ref a21), .val (.int A0), .val (.int A1), .val (.int B0), .val (.int B1), .val (.int Lu), .val (.int Lg), .val (.ref a23), .val (.ref a24), .val (.ref a25), .val (.ref a29), .val (.int (cnt1 x9 (eqI (strL Lg B0 B1) (strL Lu A0 A1)) w0)), .unset] [])
                      refine Fin.go (fun _ k => XS.iconst X31.here hx rfl (hb hby at_293) k) ?_
                      refine Fin.go (fun _ k => XS.goto X31.here hx rfl (pc0 := 294) (pc' := 298) rfl (hb hby at_294) (by decide) (by decide) k) ?_
                      refine Fin.go (fun _ k => XS.istore X31.here hx rfl (hb hby at_298) rfl (l' := #[.val (.int p0), .val (.int p1), .val (.long w0), .second, .val (.long w1), .second, .val (.int p6), .val (.int p7), .val (.int (p1 &&& (3 : Int32))), .val (.int x9), .val (.int (1 : Int32)), .val (.ref a21), .val (.int A0), .val (.int A1), .val (.int B0), .val (.int B1), .val (.int Lu), .val (.int Lg), .val (.ref a23), .val (.ref a24), .val (.ref a25), .val (.ref a29), .val (.int (cnt1 x9 (eqI (strL Lg B0 B1) (strL Lu A0 A1)) w0)), .val (.int (1 : Int32))]) rfl k) ?_
                      refine Fin.go (fun _ k => XS.goto X31.here hx rfl (pc0 := 300) (pc' := 390) rfl (hb hby at_300) (by decide) (by decide) k) ?_
                      show Fin _ p e below s _ _ _ T31 (mkF m 390 #[.val (.int p0), .val (.int p1), .val (.long w0), .second, .val (.long w1), .second, .val (.int p6), .val (.int p7), .val (.int (p1 &&& (3 : Int32))), .val (.int x9), .val (.int (1 : Int32)), .val (.ref a21), .val (.int A0), .val (.int A1), .val (.int B0), .val (.int B1), .val (.int Lu), .val (.int Lg), .val (.ref a23), .val (.ref a24), .val (.ref a25), .val (.ref a29), .val (.int (cnt1 x9 (eqI (strL Lg B0 B1) (strL Lu A0 A1)) w0)), .val (.int (1 : Int32))] [])
                      refine Fin.go (fun _ k => XS.iload X31.here hx rfl (hb hby at_390) rfl k) ?_
                      refine Fin.go (fun _ k => XS.iload X31.here hx rfl (hb hby at_392) rfl k) ?_
                      refine Fin.go (fun _ k => XS.icmpNo X31.here hx rfl (hb hby at_394) rfl (XT.ii_ne_f (by rw [show cnt1 x9 (eqI (strL Lg B0 B1) (strL Lu A0 A1)) w0 = eqI (strL Lg B0 B1) (strL Lu A0 A1) from if_pos c257, eq_fin hLu hLg rA0 rA1 rB0 rB1]; exact if_pos ⟨c264, Or.inr c277, Or.inr c290⟩)) k) ?_
                      show Fin _ p e below s _ _ _ T31 (mkF m 397 #[.val (.int p0), .val (.int p1), .val (.long w0), .second, .val (.long w1), .second, .val (.int p6), .val (.int p7), .val (.int (p1 &&& (3 : Int32))), .val (.int x9), .val (.int (1 : Int32)), .val (.ref a21), .val (.int A0), .val (.int A1), .val (.int B0), .val (.int B1), .val (.int Lu), .val (.int Lg), .val (.ref a23), .val (.ref a24), .val (.ref a25), .val (.ref a29), .val (.int (cnt1 x9 (eqI (strL Lg B0 B1) (strL Lu A0 A1)) w0)), .val (.int (1 : Int32))] [])
                      refine Fin.go (fun _ k => XS.iconst X31.here hx rfl (hb hby at_397) k) ?_
                      refine Fin.go (fun _ k => XS.goto X31.here hx rfl (pc0 := 398) (pc' := 402) rfl (hb hby at_398) (by decide) (by decide) k) ?_
                      exact Fin.leaveH X31 hS28 hk30 hZ28 hEL e31 RR30 hlk (v := some (.int (nar .boolean (1 : Int32)))) (fun h => by rw [hret] at h; cases h) (by decide) (by decide) ⟨rfl, N31⟩ (fun fs hr => retN X31 hx (t := .boolean) hret (by simp) (hb hby at_402) hr)
                    · refine Fin.go (fun _ k => XS.icmpYes X31.here hx rfl (pc0 := 290) (pc' := 297) rfl (hb hby at_290) rfl (XT.ii_ne_t c290) (by decide) (by decide) k) ?_
                      show Fin _ p e below s _ _ _ T31 (mkF m 297 #[.val (.int p0), .val (.int p1), .val (.long w0), .second, .val (.long w1), .second, .val (.int p6), .val (.int p7), .val (.int (p1 &&& (3 : Int32))), .val (.int x9), .val (.int (1 : Int32)), .val (.ref a21), .val (.int A0), .val (.int A1), .val (.int B0), .val (.int B1), .val (.int Lu), .val (.int Lg), .val (.ref a23), .val (.ref a24), .val (.ref a25), .val (.ref a29), .val (.int (cnt1 x9 (eqI (strL Lg B0 B1) (strL Lu A0 A1)) w0)), .unset] [])
                      refine Fin.go (fun _ k => XS.iconst X31.here hx rfl (hb hby at_297) k) ?_
                      refine Fin.go (fun _ k => XS.istore X31.here hx rfl (hb hby at_298) rfl (l' := #[.val (.int p0), .val (.int p1), .val (.long w0), .second, .val (.long w1), .second, .val (.int p6), .val (.int p7), .val (.int (p1 &&& (3 : Int32))), .val (.int x9), .val (.int (1 : Int32)), .val (.ref a21), .val (.int A0), .val (.int A1), .val (.int B0), .val (.int B1), .val (.int Lu), .val (.int Lg), .val (.ref a23), .val (.ref a24), .val (.ref a25), .val (.ref a29), .val (.int (cnt1 x9 (eqI (strL Lg B0 B1) (strL Lu A0 A1)) w0)), .val (.int (0 : Int32))]) rfl k) ?_
                      refine Fin.go (fun _ k => XS.goto X31.here hx rfl (pc0 := 300) (pc' := 390) rfl (hb hby at_300) (by decide) (by decide) k) ?_
                      refine Fin.go (fun _ k => XS.iload X31.here hx rfl (hb hby at_390) rfl k) ?_
                      show Fin _ p e below s _ _ _ T31 (mkF m 392 #[.val (.int p0), .val (.int p1), .val (.long w0), .second, .val (.long w1), .second, .val (.int p6), .val (.int p7), .val (.int (p1 &&& (3 : Int32))), .val (.int x9), .val (.int (1 : Int32)), .val (.ref a21), .val (.int A0), .val (.int A1), .val (.int B0), .val (.int B1), .val (.int Lu), .val (.int Lg), .val (.ref a23), .val (.ref a24), .val (.ref a25), .val (.ref a29), .val (.int (cnt1 x9 (eqI (strL Lg B0 B1) (strL Lu A0 A1)) w0)), .val (.int (0 : Int32))] [(.int (cnt1 x9 (eqI (strL Lg B0 B1) (strL Lu A0 A1)) w0))])
                      refine Fin.go (fun _ k => XS.iload X31.here hx rfl (hb hby at_392) rfl k) ?_
                      refine Fin.go (fun _ k => XS.icmpNo X31.here hx rfl (hb hby at_394) rfl (XT.ii_ne_f (by rw [show cnt1 x9 (eqI (strL Lg B0 B1) (strL Lu A0 A1)) w0 = eqI (strL Lg B0 B1) (strL Lu A0 A1) from if_pos c257, eq_fin hLu hLg rA0 rA1 rB0 rB1]; exact if_neg (fun h => h.2.2.elim c283 c290))) k) ?_
                      show Fin _ p e below s _ _ _ T31 (mkF m 397 #[.val (.int p0), .val (.int p1), .val (.long w0), .second, .val (.long w1), .second, .val (.int p6), .val (.int p7), .val (.int (p1 &&& (3 : Int32))), .val (.int x9), .val (.int (1 : Int32)), .val (.ref a21), .val (.int A0), .val (.int A1), .val (.int B0), .val (.int B1), .val (.int Lu), .val (.int Lg), .val (.ref a23), .val (.ref a24), .val (.ref a25), .val (.ref a29), .val (.int (cnt1 x9 (eqI (strL Lg B0 B1) (strL Lu A0 A1)) w0)), .val (.int (0 : Int32))] [])
                      refine Fin.go (fun _ k => XS.iconst X31.here hx rfl (hb hby at_397) k) ?_
                      refine Fin.go (fun _ k => XS.goto X31.here hx rfl (pc0 := 398) (pc' := 402) rfl (hb hby at_398) (by decide) (by decide) k) ?_
                      exact Fin.leaveH X31 hS28 hk30 hZ28 hEL e31 RR30 hlk (v := some (.int (nar .boolean (1 : Int32)))) (fun h => by rw [hret] at h; cases h) (by decide) (by decide) ⟨rfl, N31⟩ (fun fs hr => retN X31 hx (t := .boolean) hret (by simp) (hb hby at_402) hr)
                · refine Fin.go (fun _ k => XS.icmpYes X31.here hx rfl (pc0 := 277) (pc' := 297) rfl (hb hby at_277) rfl (XT.ii_ne_t c277) (by decide) (by decide) k) ?_
                  show Fin _ p e below s _ _ _ T31 (mkF m 297 #[.val (.int p0), .val (.int p1), .val (.long w0), .second, .val (.long w1), .second, .val (.int p6), .val (.int p7), .val (.int (p1 &&& (3 : Int32))), .val (.int x9), .val (.int (1 : Int32)), .val (.ref a21), .val (.int A0), .val (.int A1), .val (.int B0), .val (.int B1), .val (.int Lu), .val (.int Lg), .val (.ref a23), .val (.ref a24), .val (.ref a25), .val (.ref a29), .val (.int (cnt1 x9 (eqI (strL Lg B0 B1) (strL Lu A0 A1)) w0)), .unset] [])
                  refine Fin.go (fun _ k => XS.iconst X31.here hx rfl (hb hby at_297) k) ?_
                  refine Fin.go (fun _ k => XS.istore X31.here hx rfl (hb hby at_298) rfl (l' := #[.val (.int p0), .val (.int p1), .val (.long w0), .second, .val (.long w1), .second, .val (.int p6), .val (.int p7), .val (.int (p1 &&& (3 : Int32))), .val (.int x9), .val (.int (1 : Int32)), .val (.ref a21), .val (.int A0), .val (.int A1), .val (.int B0), .val (.int B1), .val (.int Lu), .val (.int Lg), .val (.ref a23), .val (.ref a24), .val (.ref a25), .val (.ref a29), .val (.int (cnt1 x9 (eqI (strL Lg B0 B1) (strL Lu A0 A1)) w0)), .val (.int (0 : Int32))]) rfl k) ?_
                  refine Fin.go (fun _ k => XS.goto X31.here hx rfl (pc0 := 300) (pc' := 390) rfl (hb hby at_300) (by decide) (by decide) k) ?_
                  refine Fin.go (fun _ k => XS.iload X31.here hx rfl (hb hby at_390) rfl k) ?_
                  show Fin _ p e below s _ _ _ T31 (mkF m 392 #[.val (.int p0), .val (.int p1), .val (.long w0), .second, .val (.long w1), .second, .val (.int p6), .val (.int p7), .val (.int (p1 &&& (3 : Int32))), .val (.int x9), .val (.int (1 : Int32)), .val (.ref a21), .val (.int A0), .val (.int A1), .val (.int B0), .val (.int B1), .val (.int Lu), .val (.int Lg), .val (.ref a23), .val (.ref a24), .val (.ref a25), .val (.ref a29), .val (.int (cnt1 x9 (eqI (strL Lg B0 B1) (strL Lu A0 A1)) w0)), .val (.int (0 : Int32))] [(.int (cnt1 x9 (eqI (strL Lg B0 B1) (strL Lu A0 A1)) w0))])
                  refine Fin.go (fun _ k => XS.iload X31.here hx rfl (hb hby at_392) rfl k) ?_
                  refine Fin.go (fun _ k => XS.icmpNo X31.here hx rfl (hb hby at_394) rfl (XT.ii_ne_f (by rw [show cnt1 x9 (eqI (strL Lg B0 B1) (strL Lu A0 A1)) w0 = eqI (strL Lg B0 B1) (strL Lu A0 A1) from if_pos c257, eq_fin hLu hLg rA0 rA1 rB0 rB1]; exact if_neg (fun h => h.2.1.elim c270 c277))) k) ?_
                  show Fin _ p e below s _ _ _ T31 (mkF m 397 #[.val (.int p0), .val (.int p1), .val (.long w0), .second, .val (.long w1), .second, .val (.int p6), .val (.int p7), .val (.int (p1 &&& (3 : Int32))), .val (.int x9), .val (.int (1 : Int32)), .val (.ref a21), .val (.int A0), .val (.int A1), .val (.int B0), .val (.int B1), .val (.int Lu), .val (.int Lg), .val (.ref a23), .val (.ref a24), .val (.ref a25), .val (.ref a29), .val (.int (cnt1 x9 (eqI (strL Lg B0 B1) (strL Lu A0 A1)) w0)), .val (.int (0 : Int32))] [])
                  refine Fin.go (fun _ k => XS.iconst X31.here hx rfl (hb hby at_397) k) ?_
                  refine Fin.go (fun _ k => XS.goto X31.here hx rfl (pc0 := 398) (pc' := 402) rfl (hb hby at_398) (by decide) (by decide) k) ?_
                  exact Fin.leaveH X31 hS28 hk30 hZ28 hEL e31 RR30 hlk (v := some (.int (nar .boolean (1 : Int32)))) (fun h => by rw [hret] at h; cases h) (by decide) (by decide) ⟨rfl, N31⟩ (fun fs hr => retN X31 hx (t := .boolean) hret (by simp) (hb hby at_402) hr)
            · refine Fin.go (fun _ k => XS.icmpYes X31.here hx rfl (pc0 := 264) (pc' := 297) rfl (hb hby at_264) rfl (XT.ii_ne_t c264) (by decide) (by decide) k) ?_
              show Fin _ p e below s _ _ _ T31 (mkF m 297 #[.val (.int p0), .val (.int p1), .val (.long w0), .second, .val (.long w1), .second, .val (.int p6), .val (.int p7), .val (.int (p1 &&& (3 : Int32))), .val (.int x9), .val (.int (1 : Int32)), .val (.ref a21), .val (.int A0), .val (.int A1), .val (.int B0), .val (.int B1), .val (.int Lu), .val (.int Lg), .val (.ref a23), .val (.ref a24), .val (.ref a25), .val (.ref a29), .val (.int (cnt1 x9 (eqI (strL Lg B0 B1) (strL Lu A0 A1)) w0)), .unset] [])
              refine Fin.go (fun _ k => XS.iconst X31.here hx rfl (hb hby at_297) k) ?_
              refine Fin.go (fun _ k => XS.istore X31.here hx rfl (hb hby at_298) rfl (l' := #[.val (.int p0), .val (.int p1), .val (.long w0), .second, .val (.long w1), .second, .val (.int p6), .val (.int p7), .val (.int (p1 &&& (3 : Int32))), .val (.int x9), .val (.int (1 : Int32)), .val (.ref a21), .val (.int A0), .val (.int A1), .val (.int B0), .val (.int B1), .val (.int Lu), .val (.int Lg), .val (.ref a23), .val (.ref a24), .val (.ref a25), .val (.ref a29), .val (.int (cnt1 x9 (eqI (strL Lg B0 B1) (strL Lu A0 A1)) w0)), .val (.int (0 : Int32))]) rfl k) ?_
              refine Fin.go (fun _ k => XS.goto X31.here hx rfl (pc0 := 300) (pc' := 390) rfl (hb hby at_300) (by decide) (by decide) k) ?_
              refine Fin.go (fun _ k => XS.iload X31.here hx rfl (hb hby at_390) rfl k) ?_
              show Fin _ p e below s _ _ _ T31 (mkF m 392 #[.val (.int p0), .val (.int p1), .val (.long w0), .second, .val (.long w1), .second, .val (.int p6), .val (.int p7), .val (.int (p1 &&& (3 : Int32))), .val (.int x9), .val (.int (1 : Int32)), .val (.ref a21), .val (.int A0), .val (.int A1), .val (.int B0), .val (.int B1), .val (.int Lu), .val (.int Lg), .val (.ref a23), .val (.ref a24), .val (.ref a25), .val (.ref a29), .val (.int (cnt1 x9 (eqI (strL Lg B0 B1) (strL Lu A0 A1)) w0)), .val (.int (0 : Int32))] [(.int (cnt1 x9 (eqI (strL Lg B0 B1) (strL Lu A0 A1)) w0))])
              refine Fin.go (fun _ k => XS.iload X31.here hx rfl (hb hby at_392) rfl k) ?_
              refine Fin.go (fun _ k => XS.icmpNo X31.here hx rfl (hb hby at_394) rfl (XT.ii_ne_f (by rw [show cnt1 x9 (eqI (strL Lg B0 B1) (strL Lu A0 A1)) w0 = eqI (strL Lg B0 B1) (strL Lu A0 A1) from if_pos c257, eq_fin hLu hLg rA0 rA1 rB0 rB1]; exact if_neg (fun h => c264 h.1))) k) ?_
              show Fin _ p e below s _ _ _ T31 (mkF m 397 #[.val (.int p0), .val (.int p1), .val (.long w0), .second, .val (.long w1), .second, .val (.int p6), .val (.int p7), .val (.int (p1 &&& (3 : Int32))), .val (.int x9), .val (.int (1 : Int32)), .val (.ref a21), .val (.int A0), .val (.int A1), .val (.int B0), .val (.int B1), .val (.int Lu), .val (.int Lg), .val (.ref a23), .val (.ref a24), .val (.ref a25), .val (.ref a29), .val (.int (cnt1 x9 (eqI (strL Lg B0 B1) (strL Lu A0 A1)) w0)), .val (.int (0 : Int32))] [])
              refine Fin.go (fun _ k => XS.iconst X31.here hx rfl (hb hby at_397) k) ?_
              refine Fin.go (fun _ k => XS.goto X31.here hx rfl (pc0 := 398) (pc' := 402) rfl (hb hby at_398) (by decide) (by decide) k) ?_
              exact Fin.leaveH X31 hS28 hk30 hZ28 hEL e31 RR30 hlk (v := some (.int (nar .boolean (1 : Int32)))) (fun h => by rw [hret] at h; cases h) (by decide) (by decide) ⟨rfl, N31⟩ (fun fs hr => retN X31 hx (t := .boolean) hret (by simp) (hb hby at_402) hr)
          · refine Fin.go (fun _ k => XS.icmpYes X31.here hx rfl (pc0 := 257) (pc' := 303) rfl (hb hby at_257) rfl (XT.ii_ne_t c257) (by decide) (by decide) k) ?_
            show Fin _ p e below s _ _ _ T31 (mkF m 303 #[.val (.int p0), .val (.int p1), .val (.long w0), .second, .val (.long w1), .second, .val (.int p6), .val (.int p7), .val (.int (p1 &&& (3 : Int32))), .val (.int x9), .val (.int (1 : Int32)), .val (.ref a21), .val (.int A0), .val (.int A1), .val (.int B0), .val (.int B1), .val (.int Lu), .val (.int Lg), .val (.ref a23), .val (.ref a24), .val (.ref a25), .val (.ref a29), .val (.int (cnt1 x9 (eqI (strL Lg B0 B1) (strL Lu A0 A1)) w0)), .unset] [])
            refine Fin.go (fun _ k => XS.iload X31.here hx rfl (hb hby at_303) rfl k) ?_
            by_cases c305 : x9 < 0
            · refine Fin.go (fun _ k => XS.ifNo X31.here hx rfl (hb hby at_305) rfl (XT.i0_ge_f c305) k) ?_
              show Fin _ p e below s _ _ _ T31 (mkF m 308 #[.val (.int p0), .val (.int p1), .val (.long w0), .second, .val (.long w1), .second, .val (.int p6), .val (.int p7), .val (.int (p1 &&& (3 : Int32))), .val (.int x9), .val (.int (1 : Int32)), .val (.ref a21), .val (.int A0), .val (.int A1), .val (.int B0), .val (.int B1), .val (.int Lu), .val (.int Lg), .val (.ref a23), .val (.ref a24), .val (.ref a25), .val (.ref a29), .val (.int (cnt1 x9 (eqI (strL Lg B0 B1) (strL Lu A0 A1)) w0)), .unset] [])
              refine Fin.go (fun _ k => XS.iconst X31.here hx rfl (hb hby at_308) k) ?_
              refine Fin.go (fun _ k => XS.istore X31.here hx rfl (hb hby at_309) rfl (l' := #[.val (.int p0), .val (.int p1), .val (.long w0), .second, .val (.long w1), .second, .val (.int p6), .val (.int p7), .val (.int (p1 &&& (3 : Int32))), .val (.int x9), .val (.int (1 : Int32)), .val (.ref a21), .val (.int A0), .val (.int A1), .val (.int B0), .val (.int B1), .val (.int Lu), .val (.int Lg), .val (.ref a23), .val (.ref a24), .val (.ref a25), .val (.ref a29), .val (.int (cnt1 x9 (eqI (strL Lg B0 B1) (strL Lu A0 A1)) w0)), .val (.int (0 : Int32))]) rfl k) ?_
              refine Fin.go (fun _ k => XS.goto X31.here hx rfl (pc0 := 311) (pc' := 390) rfl (hb hby at_311) (by decide) (by decide) k) ?_
              refine Fin.go (fun _ k => XS.iload X31.here hx rfl (hb hby at_390) rfl k) ?_
              show Fin _ p e below s _ _ _ T31 (mkF m 392 #[.val (.int p0), .val (.int p1), .val (.long w0), .second, .val (.long w1), .second, .val (.int p6), .val (.int p7), .val (.int (p1 &&& (3 : Int32))), .val (.int x9), .val (.int (1 : Int32)), .val (.ref a21), .val (.int A0), .val (.int A1), .val (.int B0), .val (.int B1), .val (.int Lu), .val (.int Lg), .val (.ref a23), .val (.ref a24), .val (.ref a25), .val (.ref a29), .val (.int (cnt1 x9 (eqI (strL Lg B0 B1) (strL Lu A0 A1)) w0)), .val (.int (0 : Int32))] [(.int (cnt1 x9 (eqI (strL Lg B0 B1) (strL Lu A0 A1)) w0))])
              refine Fin.go (fun _ k => XS.iload X31.here hx rfl (hb hby at_392) rfl k) ?_
              refine Fin.go (fun _ k => XS.icmpNo X31.here hx rfl (hb hby at_394) rfl (XT.ii_ne_f (cnt1_0 c257 (Or.inl c305))) k) ?_
              show Fin _ p e below s _ _ _ T31 (mkF m 397 #[.val (.int p0), .val (.int p1), .val (.long w0), .second, .val (.long w1), .second, .val (.int p6), .val (.int p7), .val (.int (p1 &&& (3 : Int32))), .val (.int x9), .val (.int (1 : Int32)), .val (.ref a21), .val (.int A0), .val (.int A1), .val (.int B0), .val (.int B1), .val (.int Lu), .val (.int Lg), .val (.ref a23), .val (.ref a24), .val (.ref a25), .val (.ref a29), .val (.int (cnt1 x9 (eqI (strL Lg B0 B1) (strL Lu A0 A1)) w0)), .val (.int (0 : Int32))] [])
              refine Fin.go (fun _ k => XS.iconst X31.here hx rfl (hb hby at_397) k) ?_
              refine Fin.go (fun _ k => XS.goto X31.here hx rfl (pc0 := 398) (pc' := 402) rfl (hb hby at_398) (by decide) (by decide) k) ?_
              exact Fin.leaveH X31 hS28 hk30 hZ28 hEL e31 RR30 hlk (v := some (.int (nar .boolean (1 : Int32)))) (fun h => by rw [hret] at h; cases h) (by decide) (by decide) ⟨rfl, N31⟩ (fun fs hr => retN X31 hx (t := .boolean) hret (by simp) (hb hby at_402) hr)
            · refine Fin.go (fun _ k => XS.ifYes X31.here hx rfl (pc0 := 305) (pc' := 314) rfl (hb hby at_305) rfl (XT.i0_ge_t c305) (by decide) (by decide) k) ?_
              show Fin _ p e below s _ _ _ T31 (mkF m 314 #[.val (.int p0), .val (.int p1), .val (.long w0), .second, .val (.long w1), .second, .val (.int p6), .val (.int p7), .val (.int (p1 &&& (3 : Int32))), .val (.int x9), .val (.int (1 : Int32)), .val (.ref a21), .val (.int A0), .val (.int A1), .val (.int B0), .val (.int B1), .val (.int Lu), .val (.int Lg), .val (.ref a23), .val (.ref a24), .val (.ref a25), .val (.ref a29), .val (.int (cnt1 x9 (eqI (strL Lg B0 B1) (strL Lu A0 A1)) w0)), .unset] [])
              refine Fin.go (fun _ k => XS.iload X31.here hx rfl (hb hby at_314) rfl k) ?_
              refine Fin.go (fun _ k => XS.bipush X31.here hx rfl (hb hby at_316) k) ?_
              by_cases c318 : x9 < (64 : Int32)
              · refine Fin.go (fun _ k => XS.icmpNo X31.here hx rfl (hb hby at_318) rfl (XT.ii_ge_f c318) k) ?_
                show Fin _ p e below s _ _ _ T31 (mkF m 321 #[.val (.int p0), .val (.int p1), .val (.long w0), .second, .val (.long w1), .second, .val (.int p6), .val (.int p7), .val (.int (p1 &&& (3 : Int32))), .val (.int x9), .val (.int (1 : Int32)), .val (.ref a21), .val (.int A0), .val (.int A1), .val (.int B0), .val (.int B1), .val (.int Lu), .val (.int Lg), .val (.ref a23), .val (.ref a24), .val (.ref a25), .val (.ref a29), .val (.int (cnt1 x9 (eqI (strL Lg B0 B1) (strL Lu A0 A1)) w0)), .unset] [])
                refine Fin.go (fun _ k => XS.iload X31.here hx rfl (hb hby at_321) rfl k) ?_
                refine Fin.go (fun _ k => XS.iconst X31.here hx rfl (hb hby at_323) k) ?_
                refine Fin.go (fun _ k => XS.icmpNo X31.here hx rfl (hb hby at_324) rfl (XT.ii_lt_f (by decide)) k) ?_
                show Fin _ p e below s _ _ _ T31 (mkF m 327 #[.val (.int p0), .val (.int p1), .val (.long w0), .second, .val (.long w1), .second, .val (.int p6), .val (.int p7), .val (.int (p1 &&& (3 : Int32))), .val (.int x9), .val (.int (1 : Int32)), .val (.ref a21), .val (.int A0), .val (.int A1), .val (.int B0), .val (.int B1), .val (.int Lu), .val (.int Lg), .val (.ref a23), .val (.ref a24), .val (.ref a25), .val (.ref a29), .val (.int (cnt1 x9 (eqI (strL Lg B0 B1) (strL Lu A0 A1)) w0)), .unset] [])
                refine Fin.go (fun _ k => XT.lloadN X31.here hx rfl (hb hby at_327) rfl k) ?_
                refine Fin.go (fun _ k => XS.iload X31.here hx rfl (hb hby at_328) rfl k) ?_
                refine Fin.go (fun _ k => XT.lushr X31.here hx rfl (hb hby at_330) rfl k) ?_
                refine Fin.go (fun _ k => XT.lconst X31.here hx rfl (hb hby at_331) k) ?_
                show Fin _ p e below s _ _ _ T31 (mkF m 332 #[.val (.int p0), .val (.int p1), .val (.long w0), .second, .val (.long w1), .second, .val (.int p6), .val (.int p7), .val (.int (p1 &&& (3 : Int32))), .val (.int x9), .val (.int (1 : Int32)), .val (.ref a21), .val (.int A0), .val (.int A1), .val (.int B0), .val (.int B1), .val (.int Lu), .val (.int Lg), .val (.ref a23), .val (.ref a24), .val (.ref a25), .val (.ref a29), .val (.int (cnt1 x9 (eqI (strL Lg B0 B1) (strL Lu A0 A1)) w0)), .unset] [(.long (1 : Int64)), (.long (XT.ushrL w0 x9))])
                refine Fin.go (fun _ k => XT.land X31.here hx rfl (hb hby at_332) rfl k) ?_
                refine Fin.go (fun _ k => XT.lconst X31.here hx rfl (hb hby at_333) k) ?_
                refine Fin.go (fun _ k => XT.lcmp X31.here hx rfl (hb hby at_334) rfl k) ?_
                by_cases c335 : (XT.cmpL ((XT.ushrL w0 x9) &&& (1 : Int64)) (0 : Int64)) = 0
                · refine Fin.go (fun _ k => XS.ifYes X31.here hx rfl (pc0 := 335) (pc' := 342) rfl (hb hby at_335) rfl (XT.i0_eq_t c335) (by decide) (by decide) k) ?_
                  show Fin _ p e below s _ _ _ T31 (mkF m 342 #[.val (.int p0), .val (.int p1), .val (.long w0), .second, .val (.long w1), .second, .val (.int p6), .val (.int p7), .val (.int (p1 &&& (3 : Int32))), .val (.int x9), .val (.int (1 : Int32)), .val (.ref a21), .val (.int A0), .val (.int A1), .val (.int B0), .val (.int B1), .val (.int Lu), .val (.int Lg), .val (.ref a23), .val (.ref a24), .val (.ref a25), .val (.ref a29), .val (.int (cnt1 x9 (eqI (strL Lg B0 B1) (strL Lu A0 A1)) w0)), .unset] [])
                  refine Fin.go (fun _ k => XS.iconst X31.here hx rfl (hb hby at_342) k) ?_
                  refine Fin.go (fun _ k => XS.istore X31.here hx rfl (hb hby at_343) rfl (l' := #[.val (.int p0), .val (.int p1), .val (.long w0), .second, .val (.long w1), .second, .val (.int p6), .val (.int p7), .val (.int (p1 &&& (3 : Int32))), .val (.int x9), .val (.int (1 : Int32)), .val (.ref a21), .val (.int A0), .val (.int A1), .val (.int B0), .val (.int B1), .val (.int Lu), .val (.int Lg), .val (.ref a23), .val (.ref a24), .val (.ref a25), .val (.ref a29), .val (.int (cnt1 x9 (eqI (strL Lg B0 B1) (strL Lu A0 A1)) w0)), .val (.int (0 : Int32))]) rfl k) ?_
                  refine Fin.go (fun _ k => XS.goto X31.here hx rfl (pc0 := 345) (pc' := 390) rfl (hb hby at_345) (by decide) (by decide) k) ?_
                  refine Fin.go (fun _ k => XS.iload X31.here hx rfl (hb hby at_390) rfl k) ?_
                  show Fin _ p e below s _ _ _ T31 (mkF m 392 #[.val (.int p0), .val (.int p1), .val (.long w0), .second, .val (.long w1), .second, .val (.int p6), .val (.int p7), .val (.int (p1 &&& (3 : Int32))), .val (.int x9), .val (.int (1 : Int32)), .val (.ref a21), .val (.int A0), .val (.int A1), .val (.int B0), .val (.int B1), .val (.int Lu), .val (.int Lg), .val (.ref a23), .val (.ref a24), .val (.ref a25), .val (.ref a29), .val (.int (cnt1 x9 (eqI (strL Lg B0 B1) (strL Lu A0 A1)) w0)), .val (.int (0 : Int32))] [(.int (cnt1 x9 (eqI (strL Lg B0 B1) (strL Lu A0 A1)) w0))])
                  refine Fin.go (fun _ k => XS.iload X31.here hx rfl (hb hby at_392) rfl k) ?_
                  refine Fin.go (fun _ k => XS.icmpNo X31.here hx rfl (hb hby at_394) rfl (XT.ii_ne_f (by rw [cnt1_lo c257 c305 c318, tst_eq]; simp [c335])) k) ?_
                  show Fin _ p e below s _ _ _ T31 (mkF m 397 #[.val (.int p0), .val (.int p1), .val (.long w0), .second, .val (.long w1), .second, .val (.int p6), .val (.int p7), .val (.int (p1 &&& (3 : Int32))), .val (.int x9), .val (.int (1 : Int32)), .val (.ref a21), .val (.int A0), .val (.int A1), .val (.int B0), .val (.int B1), .val (.int Lu), .val (.int Lg), .val (.ref a23), .val (.ref a24), .val (.ref a25), .val (.ref a29), .val (.int (cnt1 x9 (eqI (strL Lg B0 B1) (strL Lu A0 A1)) w0)), .val (.int (0 : Int32))] [])
                  refine Fin.go (fun _ k => XS.iconst X31.here hx rfl (hb hby at_397) k) ?_
                  refine Fin.go (fun _ k => XS.goto X31.here hx rfl (pc0 := 398) (pc' := 402) rfl (hb hby at_398) (by decide) (by decide) k) ?_
                  exact Fin.leaveH X31 hS28 hk30 hZ28 hEL e31 RR30 hlk (v := some (.int (nar .boolean (1 : Int32)))) (fun h => by rw [hret] at h; cases h) (by decide) (by decide) ⟨rfl, N31⟩ (fun fs hr => retN X31 hx (t := .boolean) hret (by simp) (hb hby at_402) hr)
                · refine Fin.go (fun _ k => XS.ifNo X31.here hx rfl (hb hby at_335) rfl (XT.i0_eq_f c335) k) ?_
                  show Fin _ p e below s _ _ _ T31 (mkF m 338 #[.val (.int p0), .val (.int p1), .val (.long w0), .second, .val (.long w1), .second, .val (.int p6), .val (.int p7), .val (.int (p1 &&& (3 : Int32))), .val (.int x9), .val (.int (1 : Int32)), .val (.ref a21), .val (.int A0), .val (.int A1), .val (.int B0), .val (.int B1), .val (.int Lu), .val (.int Lg), .val (.ref a23), .val (.ref a24), .val (.ref a25), .val (.ref a29), .val (.int (cnt1 x9 (eqI (strL Lg B0 B1) (strL Lu A0 A1)) w0)), .unset] [])
                  refine Fin.go (fun _ k => XS.iconst X31.here hx rfl (hb hby at_338) k) ?_
                  refine Fin.go (fun _ k => XS.goto X31.here hx rfl (pc0 := 339) (pc' := 343) rfl (hb hby at_339) (by decide) (by decide) k) ?_
                  refine Fin.go (fun _ k => XS.istore X31.here hx rfl (hb hby at_343) rfl (l' := #[.val (.int p0), .val (.int p1), .val (.long w0), .second, .val (.long w1), .second, .val (.int p6), .val (.int p7), .val (.int (p1 &&& (3 : Int32))), .val (.int x9), .val (.int (1 : Int32)), .val (.ref a21), .val (.int A0), .val (.int A1), .val (.int B0), .val (.int B1), .val (.int Lu), .val (.int Lg), .val (.ref a23), .val (.ref a24), .val (.ref a25), .val (.ref a29), .val (.int (cnt1 x9 (eqI (strL Lg B0 B1) (strL Lu A0 A1)) w0)), .val (.int (1 : Int32))]) rfl k) ?_
                  refine Fin.go (fun _ k => XS.goto X31.here hx rfl (pc0 := 345) (pc' := 390) rfl (hb hby at_345) (by decide) (by decide) k) ?_
                  show Fin _ p e below s _ _ _ T31 (mkF m 390 #[.val (.int p0), .val (.int p1), .val (.long w0), .second, .val (.long w1), .second, .val (.int p6), .val (.int p7), .val (.int (p1 &&& (3 : Int32))), .val (.int x9), .val (.int (1 : Int32)), .val (.ref a21), .val (.int A0), .val (.int A1), .val (.int B0), .val (.int B1), .val (.int Lu), .val (.int Lg), .val (.ref a23), .val (.ref a24), .val (.ref a25), .val (.ref a29), .val (.int (cnt1 x9 (eqI (strL Lg B0 B1) (strL Lu A0 A1)) w0)), .val (.int (1 : Int32))] [])
                  refine Fin.go (fun _ k => XS.iload X31.here hx rfl (hb hby at_390) rfl k) ?_
                  refine Fin.go (fun _ k => XS.iload X31.here hx rfl (hb hby at_392) rfl k) ?_
                  refine Fin.go (fun _ k => XS.icmpNo X31.here hx rfl (hb hby at_394) rfl (XT.ii_ne_f (by rw [cnt1_lo c257 c305 c318, tst_eq]; simp [c335])) k) ?_
                  show Fin _ p e below s _ _ _ T31 (mkF m 397 #[.val (.int p0), .val (.int p1), .val (.long w0), .second, .val (.long w1), .second, .val (.int p6), .val (.int p7), .val (.int (p1 &&& (3 : Int32))), .val (.int x9), .val (.int (1 : Int32)), .val (.ref a21), .val (.int A0), .val (.int A1), .val (.int B0), .val (.int B1), .val (.int Lu), .val (.int Lg), .val (.ref a23), .val (.ref a24), .val (.ref a25), .val (.ref a29), .val (.int (cnt1 x9 (eqI (strL Lg B0 B1) (strL Lu A0 A1)) w0)), .val (.int (1 : Int32))] [])
                  refine Fin.go (fun _ k => XS.iconst X31.here hx rfl (hb hby at_397) k) ?_
                  refine Fin.go (fun _ k => XS.goto X31.here hx rfl (pc0 := 398) (pc' := 402) rfl (hb hby at_398) (by decide) (by decide) k) ?_
                  exact Fin.leaveH X31 hS28 hk30 hZ28 hEL e31 RR30 hlk (v := some (.int (nar .boolean (1 : Int32)))) (fun h => by rw [hret] at h; cases h) (by decide) (by decide) ⟨rfl, N31⟩ (fun fs hr => retN X31 hx (t := .boolean) hret (by simp) (hb hby at_402) hr)
              · refine Fin.go (fun _ k => XS.icmpYes X31.here hx rfl (pc0 := 318) (pc' := 348) rfl (hb hby at_318) rfl (XT.ii_ge_t c318) (by decide) (by decide) k) ?_
                show Fin _ p e below s _ _ _ T31 (mkF m 348 #[.val (.int p0), .val (.int p1), .val (.long w0), .second, .val (.long w1), .second, .val (.int p6), .val (.int p7), .val (.int (p1 &&& (3 : Int32))), .val (.int x9), .val (.int (1 : Int32)), .val (.ref a21), .val (.int A0), .val (.int A1), .val (.int B0), .val (.int B1), .val (.int Lu), .val (.int Lg), .val (.ref a23), .val (.ref a24), .val (.ref a25), .val (.ref a29), .val (.int (cnt1 x9 (eqI (strL Lg B0 B1) (strL Lu A0 A1)) w0)), .unset] [])
                refine Fin.go (fun _ k => XS.iload X31.here hx rfl (hb hby at_348) rfl k) ?_
                refine Fin.go (fun _ k => XS.sipush X31.here hx rfl (hb hby at_350) k) ?_
                by_cases c353 : x9 < (128 : Int32)
                · refine Fin.go (fun _ k => XS.icmpNo X31.here hx rfl (hb hby at_353) rfl (XT.ii_ge_f c353) k) ?_
                  show Fin _ p e below s _ _ _ T31 (mkF m 356 #[.val (.int p0), .val (.int p1), .val (.long w0), .second, .val (.long w1), .second, .val (.int p6), .val (.int p7), .val (.int (p1 &&& (3 : Int32))), .val (.int x9), .val (.int (1 : Int32)), .val (.ref a21), .val (.int A0), .val (.int A1), .val (.int B0), .val (.int B1), .val (.int Lu), .val (.int Lg), .val (.ref a23), .val (.ref a24), .val (.ref a25), .val (.ref a29), .val (.int (cnt1 x9 (eqI (strL Lg B0 B1) (strL Lu A0 A1)) w0)), .unset] [])
                  refine Fin.go (fun _ k => XS.iload X31.here hx rfl (hb hby at_356) rfl k) ?_
                  refine Fin.go (fun _ k => XS.iconst X31.here hx rfl (hb hby at_358) k) ?_
                  refine Fin.go (fun _ k => XS.icmpYes X31.here hx rfl (pc0 := 359) (pc' := 381) rfl (hb hby at_359) rfl (XT.ii_lt_t (by decide)) (by decide) (by decide) k) ?_
                  show Fin _ p e below s _ _ _ T31 (mkF m 381 #[.val (.int p0), .val (.int p1), .val (.long w0), .second, .val (.long w1), .second, .val (.int p6), .val (.int p7), .val (.int (p1 &&& (3 : Int32))), .val (.int x9), .val (.int (1 : Int32)), .val (.ref a21), .val (.int A0), .val (.int A1), .val (.int B0), .val (.int B1), .val (.int Lu), .val (.int Lg), .val (.ref a23), .val (.ref a24), .val (.ref a25), .val (.ref a29), .val (.int (cnt1 x9 (eqI (strL Lg B0 B1) (strL Lu A0 A1)) w0)), .unset] [])
                  refine Fin.go (fun _ k => XS.iconst X31.here hx rfl (hb hby at_381) k) ?_
                  refine Fin.go (fun _ k => XS.istore X31.here hx rfl (hb hby at_382) rfl (l' := #[.val (.int p0), .val (.int p1), .val (.long w0), .second, .val (.long w1), .second, .val (.int p6), .val (.int p7), .val (.int (p1 &&& (3 : Int32))), .val (.int x9), .val (.int (1 : Int32)), .val (.ref a21), .val (.int A0), .val (.int A1), .val (.int B0), .val (.int B1), .val (.int Lu), .val (.int Lg), .val (.ref a23), .val (.ref a24), .val (.ref a25), .val (.ref a29), .val (.int (cnt1 x9 (eqI (strL Lg B0 B1) (strL Lu A0 A1)) w0)), .val (.int (0 : Int32))]) rfl k) ?_
                  refine Fin.go (fun _ k => XS.goto X31.here hx rfl (pc0 := 384) (pc' := 390) rfl (hb hby at_384) (by decide) (by decide) k) ?_
                  refine Fin.go (fun _ k => XS.iload X31.here hx rfl (hb hby at_390) rfl k) ?_
                  show Fin _ p e below s _ _ _ T31 (mkF m 392 #[.val (.int p0), .val (.int p1), .val (.long w0), .second, .val (.long w1), .second, .val (.int p6), .val (.int p7), .val (.int (p1 &&& (3 : Int32))), .val (.int x9), .val (.int (1 : Int32)), .val (.ref a21), .val (.int A0), .val (.int A1), .val (.int B0), .val (.int B1), .val (.int Lu), .val (.int Lg), .val (.ref a23), .val (.ref a24), .val (.ref a25), .val (.ref a29), .val (.int (cnt1 x9 (eqI (strL Lg B0 B1) (strL Lu A0 A1)) w0)), .val (.int (0 : Int32))] [(.int (cnt1 x9 (eqI (strL Lg B0 B1) (strL Lu A0 A1)) w0))])
                  refine Fin.go (fun _ k => XS.iload X31.here hx rfl (hb hby at_392) rfl k) ?_
                  refine Fin.go (fun _ k => XS.icmpNo X31.here hx rfl (hb hby at_394) rfl (XT.ii_ne_f (cnt1_0 c257 (Or.inr c318))) k) ?_
                  show Fin _ p e below s _ _ _ T31 (mkF m 397 #[.val (.int p0), .val (.int p1), .val (.long w0), .second, .val (.long w1), .second, .val (.int p6), .val (.int p7), .val (.int (p1 &&& (3 : Int32))), .val (.int x9), .val (.int (1 : Int32)), .val (.ref a21), .val (.int A0), .val (.int A1), .val (.int B0), .val (.int B1), .val (.int Lu), .val (.int Lg), .val (.ref a23), .val (.ref a24), .val (.ref a25), .val (.ref a29), .val (.int (cnt1 x9 (eqI (strL Lg B0 B1) (strL Lu A0 A1)) w0)), .val (.int (0 : Int32))] [])
                  refine Fin.go (fun _ k => XS.iconst X31.here hx rfl (hb hby at_397) k) ?_
                  refine Fin.go (fun _ k => XS.goto X31.here hx rfl (pc0 := 398) (pc' := 402) rfl (hb hby at_398) (by decide) (by decide) k) ?_
                  exact Fin.leaveH X31 hS28 hk30 hZ28 hEL e31 RR30 hlk (v := some (.int (nar .boolean (1 : Int32)))) (fun h => by rw [hret] at h; cases h) (by decide) (by decide) ⟨rfl, N31⟩ (fun fs hr => retN X31 hx (t := .boolean) hret (by simp) (hb hby at_402) hr)
                · refine Fin.go (fun _ k => XS.icmpYes X31.here hx rfl (pc0 := 353) (pc' := 387) rfl (hb hby at_353) rfl (XT.ii_ge_t c353) (by decide) (by decide) k) ?_
                  show Fin _ p e below s _ _ _ T31 (mkF m 387 #[.val (.int p0), .val (.int p1), .val (.long w0), .second, .val (.long w1), .second, .val (.int p6), .val (.int p7), .val (.int (p1 &&& (3 : Int32))), .val (.int x9), .val (.int (1 : Int32)), .val (.ref a21), .val (.int A0), .val (.int A1), .val (.int B0), .val (.int B1), .val (.int Lu), .val (.int Lg), .val (.ref a23), .val (.ref a24), .val (.ref a25), .val (.ref a29), .val (.int (cnt1 x9 (eqI (strL Lg B0 B1) (strL Lu A0 A1)) w0)), .unset] [])
                  refine Fin.go (fun _ k => XS.iconst X31.here hx rfl (hb hby at_387) k) ?_
                  refine Fin.go (fun _ k => XS.istore X31.here hx rfl (hb hby at_388) rfl (l' := #[.val (.int p0), .val (.int p1), .val (.long w0), .second, .val (.long w1), .second, .val (.int p6), .val (.int p7), .val (.int (p1 &&& (3 : Int32))), .val (.int x9), .val (.int (1 : Int32)), .val (.ref a21), .val (.int A0), .val (.int A1), .val (.int B0), .val (.int B1), .val (.int Lu), .val (.int Lg), .val (.ref a23), .val (.ref a24), .val (.ref a25), .val (.ref a29), .val (.int (cnt1 x9 (eqI (strL Lg B0 B1) (strL Lu A0 A1)) w0)), .val (.int (0 : Int32))]) rfl k) ?_
                  refine Fin.go (fun _ k => XS.iload X31.here hx rfl (hb hby at_390) rfl k) ?_
                  refine Fin.go (fun _ k => XS.iload X31.here hx rfl (hb hby at_392) rfl k) ?_
                  show Fin _ p e below s _ _ _ T31 (mkF m 394 #[.val (.int p0), .val (.int p1), .val (.long w0), .second, .val (.long w1), .second, .val (.int p6), .val (.int p7), .val (.int (p1 &&& (3 : Int32))), .val (.int x9), .val (.int (1 : Int32)), .val (.ref a21), .val (.int A0), .val (.int A1), .val (.int B0), .val (.int B1), .val (.int Lu), .val (.int Lg), .val (.ref a23), .val (.ref a24), .val (.ref a25), .val (.ref a29), .val (.int (cnt1 x9 (eqI (strL Lg B0 B1) (strL Lu A0 A1)) w0)), .val (.int (0 : Int32))] [(.int (0 : Int32)), (.int (cnt1 x9 (eqI (strL Lg B0 B1) (strL Lu A0 A1)) w0))])
                  refine Fin.go (fun _ k => XS.icmpNo X31.here hx rfl (hb hby at_394) rfl (XT.ii_ne_f (cnt1_0 c257 (Or.inr c318))) k) ?_
                  show Fin _ p e below s _ _ _ T31 (mkF m 397 #[.val (.int p0), .val (.int p1), .val (.long w0), .second, .val (.long w1), .second, .val (.int p6), .val (.int p7), .val (.int (p1 &&& (3 : Int32))), .val (.int x9), .val (.int (1 : Int32)), .val (.ref a21), .val (.int A0), .val (.int A1), .val (.int B0), .val (.int B1), .val (.int Lu), .val (.int Lg), .val (.ref a23), .val (.ref a24), .val (.ref a25), .val (.ref a29), .val (.int (cnt1 x9 (eqI (strL Lg B0 B1) (strL Lu A0 A1)) w0)), .val (.int (0 : Int32))] [])
                  refine Fin.go (fun _ k => XS.iconst X31.here hx rfl (hb hby at_397) k) ?_
                  refine Fin.go (fun _ k => XS.goto X31.here hx rfl (pc0 := 398) (pc' := 402) rfl (hb hby at_398) (by decide) (by decide) k) ?_
                  exact Fin.leaveH X31 hS28 hk30 hZ28 hEL e31 RR30 hlk (v := some (.int (nar .boolean (1 : Int32)))) (fun h => by rw [hret] at h; cases h) (by decide) (by decide) ⟨rfl, N31⟩ (fun fs hr => retN X31 hx (t := .boolean) hret (by simp) (hb hby at_402) hr)
        show Fin _ p e below s _ _ _ T27 (mkF m 213 #[.val (.int p0), .val (.int p1), .val (.long w0), .second, .val (.long w1), .second, .val (.int p6), .val (.int p7), .val (.int (p1 &&& (3 : Int32))), .val (.int x9), .val (.int (1 : Int32)), .val (.ref a21), .val (.int A0), .val (.int A1), .val (.int B0), .val (.int B1), .val (.int Lu), .val (.int Lg), .val (.ref a23), .val (.ref a24), .unset, .unset, .unset, .unset] [(.ref o27), (.ref a23), (.ref a24), (.ref a25), (.ref a25)])
        refine Fin.go (fun _ k => XS.iloadN X27.here hx rfl (hb hby at_213) rfl k) ?_
        refine Fin.go (fun _ k => XS.iconst X27.here hx rfl (hb hby at_214) k) ?_
        refine Fin.go (fun _ k => XS.iand X27.here hx rfl (hb hby at_215) rfl k) ?_
        by_cases c216 : (p1 &&& (4 : Int32)) = 0
        · refine Fin.go (fun _ k => XS.ifYes X27.here hx rfl (pc0 := 216) (pc' := 223) rfl (hb hby at_216) rfl (XT.i0_eq_t c216) (by decide) (by decide) k) ?_
          show Fin _ p e below s _ _ _ T27 (mkF m 223 #[.val (.int p0), .val (.int p1), .val (.long w0), .second, .val (.long w1), .second, .val (.int p6), .val (.int p7), .val (.int (p1 &&& (3 : Int32))), .val (.int x9), .val (.int (1 : Int32)), .val (.ref a21), .val (.int A0), .val (.int A1), .val (.int B0), .val (.int B1), .val (.int Lu), .val (.int Lg), .val (.ref a23), .val (.ref a24), .unset, .unset, .unset, .unset] [(.ref o27), (.ref a23), (.ref a24), (.ref a25), (.ref a25)])
          refine Fin.go (fun _ k => XS.iconst X27.here hx rfl (hb hby at_223) k) ?_
          show Fin _ p e below s _ _ _ T27 (mkF m 224 #[.val (.int p0), .val (.int p1), .val (.long w0), .second, .val (.long w1), .second, .val (.int p6), .val (.int p7), .val (.int (p1 &&& (3 : Int32))), .val (.int x9), .val (.int (1 : Int32)), .val (.ref a21), .val (.int A0), .val (.int A1), .val (.int B0), .val (.int B1), .val (.int Lu), .val (.int Lg), .val (.ref a23), .val (.ref a24), .unset, .unset, .unset, .unset] [(.int (0 : Int32)), (.ref o27), (.ref a23), (.ref a24), (.ref a25), (.ref a25)])
          exact tl _ (Or.inl rfl)
        · refine Fin.go (fun _ k => XS.ifNo X27.here hx rfl (hb hby at_216) rfl (XT.i0_eq_f c216) k) ?_
          show Fin _ p e below s _ _ _ T27 (mkF m 219 #[.val (.int p0), .val (.int p1), .val (.long w0), .second, .val (.long w1), .second, .val (.int p6), .val (.int p7), .val (.int (p1 &&& (3 : Int32))), .val (.int x9), .val (.int (1 : Int32)), .val (.ref a21), .val (.int A0), .val (.int A1), .val (.int B0), .val (.int B1), .val (.int Lu), .val (.int Lg), .val (.ref a23), .val (.ref a24), .unset, .unset, .unset, .unset] [(.ref o27), (.ref a23), (.ref a24), (.ref a25), (.ref a25)])
          refine Fin.go (fun _ k => XS.iconst X27.here hx rfl (hb hby at_219) k) ?_
          refine Fin.go (fun _ k => XS.goto X27.here hx rfl (pc0 := 220) (pc' := 224) rfl (hb hby at_220) (by decide) (by decide) k) ?_
          show Fin _ p e below s _ _ _ T27 (mkF m 224 #[.val (.int p0), .val (.int p1), .val (.long w0), .second, .val (.long w1), .second, .val (.int p6), .val (.int p7), .val (.int (p1 &&& (3 : Int32))), .val (.int x9), .val (.int (1 : Int32)), .val (.ref a21), .val (.int A0), .val (.int A1), .val (.int B0), .val (.int B1), .val (.int Lu), .val (.int Lg), .val (.ref a23), .val (.ref a24), .unset, .unset, .unset, .unset] [(.int (1 : Int32)), (.ref o27), (.ref a23), (.ref a24), (.ref a25), (.ref a25)])
          exact tl _ (Or.inr rfl)
      · refine Fin.go (fun _ k => XS.icmpYes X0.here hx rfl (pc0 := 75) (pc' := 90) rfl (hb hby at_75) rfl (XT.ii_ne_t c75) (by decide) (by decide) k) ?_
        show Fin _ p e below s _ _ _ s₁ (mkF m 90 #[.val (.int p0), .val (.int p1), .val (.long w0), .second, .val (.long w1), .second, .val (.int p6), .val (.int p7), .val (.int (p1 &&& (3 : Int32))), .val (.int x9), .val (.int ((p6 &&& (2147483647 : Int32)) % (3 : Int32))), .unset, .unset, .unset, .unset, .unset, .unset, .unset, .unset, .unset, .unset, .unset, .unset, .unset] [])
        rw [mod3n c61 c75]
        show Fin _ p e below s _ _ _ s₁ (mkF m 90 #[.val (.int p0), .val (.int p1), .val (.long w0), .second, .val (.long w1), .second, .val (.int p6), .val (.int p7), .val (.int (p1 &&& (3 : Int32))), .val (.int x9), .val (.int (2 : Int32)), .unset, .unset, .unset, .unset, .unset, .unset, .unset, .unset, .unset, .unset, .unset, .unset, .unset] [])
        refine Fin.go (fun _ k => XS.iconst X0.here hx rfl (hb hby at_90) k) ?_
        obtain ⟨T32, h32, k32, X32, e32, E32, A32, st32⟩ := newP X0 hx hZ (aty := .long) (hw _ w_1) e0 (g := (mkF m 91 #[.val (.int p0), .val (.int p1), .val (.long w0), .second, .val (.long w1), .second, .val (.int p6), .val (.int p7), .val (.int (p1 &&& (3 : Int32))), .val (.int x9), .val (.int (2 : Int32)), .unset, .unset, .unset, .unset, .unset, .unset, .unset, .unset, .unset, .unset, .unset, .unset, .unset] [(.int (2 : Int32))])) rfl (hb hby at_91) rfl (by decide : ¬ ((2 : Int32) < (0 : Int32))) (cap := 2) (by decide) (by decide) (by decide) (by decide)
        obtain ⟨a32, g32⟩ : ∃ z, z = h0.size := ⟨_, rfl⟩
        rw [← g32] at A32 st32
        refine Fin.go st32 ?_
        have O32 := O.ext E32
        have hk32 := Nat.le_trans (Nat.zero_le _) E32.1
        have RR32 := RR0.trans (CHr.ext E32 RR0.1)
        have n32 : n0 ≤ a32 := by have := O.2.1; have := O.1; omega
        have V32 : Arv Z h32 a32 k32 .long (2 : Int32) [(.long (0 : Int64)), (.long (0 : Int64))] (.long (0 : Int64)) := (Arv.new A32 (by decide)).pad (pad_rep [] (.long (0 : Int64)) 2)
        show Fin _ p e below s _ _ _ T32 (mkF m 93 #[.val (.int p0), .val (.int p1), .val (.long w0), .second, .val (.long w1), .second, .val (.int p6), .val (.int p7), .val (.int (p1 &&& (3 : Int32))), .val (.int x9), .val (.int (2 : Int32)), .unset, .unset, .unset, .unset, .unset, .unset, .unset, .unset, .unset, .unset, .unset, .unset, .unset] [(.ref a32)])
        refine Fin.go (fun _ k => XS.dup X32.here hx rfl (hb hby at_93) rfl rfl k) ?_
        refine Fin.go (fun _ k => XS.iconst X32.here hx rfl (hb hby at_94) k) ?_
        refine Fin.go (fun _ k => XT.lloadN X32.here hx rfl (hb hby at_95) rfl k) ?_
        obtain ⟨c33, B33, q33, S33, M33, H33, G33⟩ := id V32
        obtain ⟨T33, h33, X33, e33, W33, st33⟩ := stJ X32 hx hZ e32 B33 (j := (0 : Int32)) (inb_of S33 ⟨(by decide : ¬ ((0 : Int32) < (0 : Int32))), (by decide : (0 : Int32) < (2 : Int32))⟩) (g := (mkF m 96 #[.val (.int p0), .val (.int p1), .val (.long w0), .second, .val (.long w1), .second, .val (.int p6), .val (.int p7), .val (.int (p1 &&& (3 : Int32))), .val (.int x9), .val (.int (2 : Int32)), .unset, .unset, .unset, .unset, .unset, .unset, .unset, .unset, .unset, .unset, .unset, .unset, .unset] [(.long w0), (.int (0 : Int32)), (.ref a32), (.ref a32)])) rfl rfl (hb hby at_96)
        refine Fin.go st33 ?_
        have V33 : Arv Z h33 a32 k32 .long (2 : Int32) [(.long w0), (.long (0 : Int64))] (.long (0 : Int64)) := (Arv.set B33 q33 S33 M33 H33 G33 rfl W33 0 rfl (Nat.le_of_ble_eq_true rfl))
        have N33 := Fr.snoc X33 N0 n32
        have O33 := O32.wr W33 n32
        have hk33 := Nat.le_trans hk32 (Keep.of_wr W33).1
        have RR33 := RR32.trans (CHr.wr W33 (Safe.arv hZ.alike V32 (by decide)) RR32.1)
        show Fin _ p e below s _ _ _ T33 (mkF m 97 #[.val (.int p0), .val (.int p1), .val (.long w0), .second, .val (.long w1), .second, .val (.int p6), .val (.int p7), .val (.int (p1 &&& (3 : Int32))), .val (.int x9), .val (.int (2 : Int32)), .unset, .unset, .unset, .unset, .unset, .unset, .unset, .unset, .unset, .unset, .unset, .unset, .unset] [(.ref a32)])
        refine Fin.go (fun _ k => XS.dup X33.here hx rfl (hb hby at_97) rfl rfl k) ?_
        refine Fin.go (fun _ k => XS.iconst X33.here hx rfl (hb hby at_98) k) ?_
        refine Fin.go (fun _ k => XT.lload X33.here hx rfl (hb hby at_99) rfl k) ?_
        obtain ⟨c34, B34, q34, S34, M34, H34, G34⟩ := id V33
        obtain ⟨T34, h34, X34, e34, W34, st34⟩ := stJ X33 hx hZ e33 B34 (j := (1 : Int32)) (inb_of S34 ⟨(by decide : ¬ ((1 : Int32) < (0 : Int32))), (by decide : (1 : Int32) < (2 : Int32))⟩) (g := (mkF m 101 #[.val (.int p0), .val (.int p1), .val (.long w0), .second, .val (.long w1), .second, .val (.int p6), .val (.int p7), .val (.int (p1 &&& (3 : Int32))), .val (.int x9), .val (.int (2 : Int32)), .unset, .unset, .unset, .unset, .unset, .unset, .unset, .unset, .unset, .unset, .unset, .unset, .unset] [(.long w1), (.int (1 : Int32)), (.ref a32), (.ref a32)])) rfl rfl (hb hby at_101)
        refine Fin.go st34 ?_
        have V34 : Arv Z h34 a32 k32 .long (2 : Int32) [(.long w0), (.long w1)] (.long (0 : Int64)) := (Arv.set B34 q34 S34 M34 H34 G34 rfl W34 1 rfl (Nat.le_of_ble_eq_true rfl))
        have N34 := Fr.snoc X34 N33 n32
        have O34 := O33.wr W34 n32
        have hk34 := Nat.le_trans hk33 (Keep.of_wr W34).1
        have RR34 := RR33.trans (CHr.wr W34 (Safe.arv hZ.alike V33 (by decide)) RR33.1)
        show Fin _ p e below s _ _ _ T34 (mkF m 102 #[.val (.int p0), .val (.int p1), .val (.long w0), .second, .val (.long w1), .second, .val (.int p6), .val (.int p7), .val (.int (p1 &&& (3 : Int32))), .val (.int x9), .val (.int (2 : Int32)), .unset, .unset, .unset, .unset, .unset, .unset, .unset, .unset, .unset, .unset, .unset, .unset, .unset] [(.ref a32)])
        refine Fin.go (fun _ k => XS.astore X34.here hx rfl (hb hby at_102) rfl rfl (l' := #[.val (.int p0), .val (.int p1), .val (.long w0), .second, .val (.long w1), .second, .val (.int p6), .val (.int p7), .val (.int (p1 &&& (3 : Int32))), .val (.int x9), .val (.int (2 : Int32)), .val (.ref a32), .unset, .unset, .unset, .unset, .unset, .unset, .unset, .unset, .unset, .unset, .unset, .unset]) rfl k) ?_
        refine Fin.go (fun _ k => XS.iload X34.here hx rfl (hb hby at_104) rfl k) ?_
        refine Fin.go (fun _ k => XS.sipush X34.here hx rfl (hb hby at_106) k) ?_
        refine Fin.go (fun _ k => XS.iand X34.here hx rfl (hb hby at_109) rfl k) ?_
        show Fin _ p e below s _ _ _ T34 (mkF m 110 #[.val (.int p0), .val (.int p1), .val (.long w0), .second, .val (.long w1), .second, .val (.int p6), .val (.int p7), .val (.int (p1 &&& (3 : Int32))), .val (.int x9), .val (.int (2 : Int32)), .val (.ref a32), .unset, .unset, .unset, .unset, .unset, .unset, .unset, .unset, .unset, .unset, .unset, .unset] [(.int (p7 &&& (255 : Int32)))])
        refine Fin.go (fun _ k => XT.i2c X34.here hx rfl (hb hby at_110) rfl k) ?_
        refine Fin.go (fun _ k => XS.istore X34.here hx rfl (hb hby at_111) rfl (l' := #[.val (.int p0), .val (.int p1), .val (.long w0), .second, .val (.long w1), .second, .val (.int p6), .val (.int p7), .val (.int (p1 &&& (3 : Int32))), .val (.int x9), .val (.int (2 : Int32)), .val (.ref a32), .val (.int ((Int32.toUInt32 (p7 &&& (255 : Int32))).toUInt16.toUInt32.toInt32)), .unset, .unset, .unset, .unset, .unset, .unset, .unset, .unset, .unset, .unset, .unset]) rfl k) ?_
        refine Fin.go (fun _ k => XS.iload X34.here hx rfl (hb hby at_113) rfl k) ?_
        refine Fin.go (fun _ k => XS.bipush X34.here hx rfl (hb hby at_115) k) ?_
        show Fin _ p e below s _ _ _ T34 (mkF m 117 #[.val (.int p0), .val (.int p1), .val (.long w0), .second, .val (.long w1), .second, .val (.int p6), .val (.int p7), .val (.int (p1 &&& (3 : Int32))), .val (.int x9), .val (.int (2 : Int32)), .val (.ref a32), .val (.int ((Int32.toUInt32 (p7 &&& (255 : Int32))).toUInt16.toUInt32.toInt32)), .unset, .unset, .unset, .unset, .unset, .unset, .unset, .unset, .unset, .unset, .unset] [(.int (8 : Int32)), (.int p7)])
        refine Fin.go (fun _ k => XT.iushr X34.here hx rfl (hb hby at_117) rfl k) ?_
        refine Fin.go (fun _ k => XS.sipush X34.here hx rfl (hb hby at_118) k) ?_
        refine Fin.go (fun _ k => XS.iand X34.here hx rfl (hb hby at_121) rfl k) ?_
        refine Fin.go (fun _ k => XT.i2c X34.here hx rfl (hb hby at_122) rfl k) ?_
        show Fin _ p e below s _ _ _ T34 (mkF m 123 #[.val (.int p0), .val (.int p1), .val (.long w0), .second, .val (.long w1), .second, .val (.int p6), .val (.int p7), .val (.int (p1 &&& (3 : Int32))), .val (.int x9), .val (.int (2 : Int32)), .val (.ref a32), .val (.int ((Int32.toUInt32 (p7 &&& (255 : Int32))).toUInt16.toUInt32.toInt32)), .unset, .unset, .unset, .unset, .unset, .unset, .unset, .unset, .unset, .unset, .unset] [(.int ((Int32.toUInt32 ((XT.ushr p7 (8 : Int32)) &&& (255 : Int32))).toUInt16.toUInt32.toInt32))])
        refine Fin.go (fun _ k => XS.istore X34.here hx rfl (hb hby at_123) rfl (l' := #[.val (.int p0), .val (.int p1), .val (.long w0), .second, .val (.long w1), .second, .val (.int p6), .val (.int p7), .val (.int (p1 &&& (3 : Int32))), .val (.int x9), .val (.int (2 : Int32)), .val (.ref a32), .val (.int ((Int32.toUInt32 (p7 &&& (255 : Int32))).toUInt16.toUInt32.toInt32)), .val (.int ((Int32.toUInt32 ((XT.ushr p7 (8 : Int32)) &&& (255 : Int32))).toUInt16.toUInt32.toInt32)), .unset, .unset, .unset, .unset, .unset, .unset, .unset, .unset, .unset, .unset]) rfl k) ?_
        refine Fin.go (fun _ k => XS.iload X34.here hx rfl (hb hby at_125) rfl k) ?_
        refine Fin.go (fun _ k => XS.iload X34.here hx rfl (hb hby at_127) rfl k) ?_
        refine Fin.go (fun _ k => XS.bipush X34.here hx rfl (hb hby at_129) k) ?_
        show Fin _ p e below s _ _ _ T34 (mkF m 131 #[.val (.int p0), .val (.int p1), .val (.long w0), .second, .val (.long w1), .second, .val (.int p6), .val (.int p7), .val (.int (p1 &&& (3 : Int32))), .val (.int x9), .val (.int (2 : Int32)), .val (.ref a32), .val (.int ((Int32.toUInt32 (p7 &&& (255 : Int32))).toUInt16.toUInt32.toInt32)), .val (.int ((Int32.toUInt32 ((XT.ushr p7 (8 : Int32)) &&& (255 : Int32))).toUInt16.toUInt32.toInt32)), .unset, .unset, .unset, .unset, .unset, .unset, .unset, .unset, .unset, .unset] [(.int (16 : Int32)), (.int p7), (.int ((Int32.toUInt32 (p7 &&& (255 : Int32))).toUInt16.toUInt32.toInt32))])
        refine Fin.go (fun _ k => XT.iushr X34.here hx rfl (hb hby at_131) rfl k) ?_
        refine Fin.go (fun _ k => XS.iconst X34.here hx rfl (hb hby at_132) k) ?_
        refine Fin.go (fun _ k => XS.iand X34.here hx rfl (hb hby at_133) rfl k) ?_
        refine Fin.go (fun _ k => XS.iconst X34.here hx rfl (hb hby at_134) k) ?_
        show Fin _ p e below s _ _ _ T34 (mkF m 135 #[.val (.int p0), .val (.int p1), .val (.long w0), .second, .val (.long w1), .second, .val (.int p6), .val (.int p7), .val (.int (p1 &&& (3 : Int32))), .val (.int x9), .val (.int (2 : Int32)), .val (.ref a32), .val (.int ((Int32.toUInt32 (p7 &&& (255 : Int32))).toUInt16.toUInt32.toInt32)), .val (.int ((Int32.toUInt32 ((XT.ushr p7 (8 : Int32)) &&& (255 : Int32))).toUInt16.toUInt32.toInt32)), .unset, .unset, .unset, .unset, .unset, .unset, .unset, .unset, .unset, .unset] [(.int (5 : Int32)), (.int ((XT.ushr p7 (16 : Int32)) &&& (1 : Int32))), (.int ((Int32.toUInt32 (p7 &&& (255 : Int32))).toUInt16.toUInt32.toInt32))])
        refine Fin.go (fun _ k => XT.ishl X34.here hx rfl (hb hby at_135) rfl k) ?_
        refine Fin.go (fun _ k => XT.ixor X34.here hx rfl (hb hby at_136) rfl k) ?_
        refine Fin.go (fun _ k => XT.i2c X34.here hx rfl (hb hby at_137) rfl k) ?_
        refine Fin.go (fun _ k => XS.istore X34.here hx rfl (hb hby at_138) rfl (l' := #[.val (.int p0), .val (.int p1), .val (.long w0), .second, .val (.long w1), .second, .val (.int p6), .val (.int p7), .val (.int (p1 &&& (3 : Int32))), .val (.int x9), .val (.int (2 : Int32)), .val (.ref a32), .val (.int ((Int32.toUInt32 (p7 &&& (255 : Int32))).toUInt16.toUInt32.toInt32)), .val (.int ((Int32.toUInt32 ((XT.ushr p7 (8 : Int32)) &&& (255 : Int32))).toUInt16.toUInt32.toInt32)), .val (.int ((Int32.toUInt32 (((Int32.toUInt32 (p7 &&& (255 : Int32))).toUInt16.toUInt32.toInt32) ^^^ (((XT.ushr p7 (16 : Int32)) &&& (1 : Int32)) <<< ((5 : Int32) &&& 31)))).toUInt16.toUInt32.toInt32)), .unset, .unset, .unset, .unset, .unset, .unset, .unset, .unset, .unset]) rfl k) ?_
        show Fin _ p e below s _ _ _ T34 (mkF m 140 #[.val (.int p0), .val (.int p1), .val (.long w0), .second, .val (.long w1), .second, .val (.int p6), .val (.int p7), .val (.int (p1 &&& (3 : Int32))), .val (.int x9), .val (.int (2 : Int32)), .val (.ref a32), .val (.int ((Int32.toUInt32 (p7 &&& (255 : Int32))).toUInt16.toUInt32.toInt32)), .val (.int ((Int32.toUInt32 ((XT.ushr p7 (8 : Int32)) &&& (255 : Int32))).toUInt16.toUInt32.toInt32)), .val (.int ((Int32.toUInt32 (((Int32.toUInt32 (p7 &&& (255 : Int32))).toUInt16.toUInt32.toInt32) ^^^ (((XT.ushr p7 (16 : Int32)) &&& (1 : Int32)) <<< ((5 : Int32) &&& 31)))).toUInt16.toUInt32.toInt32)), .unset, .unset, .unset, .unset, .unset, .unset, .unset, .unset, .unset] [])
        refine Fin.go (fun _ k => XS.iload X34.here hx rfl (hb hby at_140) rfl k) ?_
        refine Fin.go (fun _ k => XS.iload X34.here hx rfl (hb hby at_142) rfl k) ?_
        refine Fin.go (fun _ k => XS.bipush X34.here hx rfl (hb hby at_144) k) ?_
        refine Fin.go (fun _ k => XT.iushr X34.here hx rfl (hb hby at_146) rfl k) ?_
        show Fin _ p e below s _ _ _ T34 (mkF m 147 #[.val (.int p0), .val (.int p1), .val (.long w0), .second, .val (.long w1), .second, .val (.int p6), .val (.int p7), .val (.int (p1 &&& (3 : Int32))), .val (.int x9), .val (.int (2 : Int32)), .val (.ref a32), .val (.int ((Int32.toUInt32 (p7 &&& (255 : Int32))).toUInt16.toUInt32.toInt32)), .val (.int ((Int32.toUInt32 ((XT.ushr p7 (8 : Int32)) &&& (255 : Int32))).toUInt16.toUInt32.toInt32)), .val (.int ((Int32.toUInt32 (((Int32.toUInt32 (p7 &&& (255 : Int32))).toUInt16.toUInt32.toInt32) ^^^ (((XT.ushr p7 (16 : Int32)) &&& (1 : Int32)) <<< ((5 : Int32) &&& 31)))).toUInt16.toUInt32.toInt32)), .unset, .unset, .unset, .unset, .unset, .unset, .unset, .unset, .unset] [(.int (XT.ushr p7 (17 : Int32))), (.int ((Int32.toUInt32 ((XT.ushr p7 (8 : Int32)) &&& (255 : Int32))).toUInt16.toUInt32.toInt32))])
        refine Fin.go (fun _ k => XS.iconst X34.here hx rfl (hb hby at_147) k) ?_
        refine Fin.go (fun _ k => XS.iand X34.here hx rfl (hb hby at_148) rfl k) ?_
        refine Fin.go (fun _ k => XS.iconst X34.here hx rfl (hb hby at_149) k) ?_
        refine Fin.go (fun _ k => XT.ishl X34.here hx rfl (hb hby at_150) rfl k) ?_
        show Fin _ p e below s _ _ _ T34 (mkF m 151 #[.val (.int p0), .val (.int p1), .val (.long w0), .second, .val (.long w1), .second, .val (.int p6), .val (.int p7), .val (.int (p1 &&& (3 : Int32))), .val (.int x9), .val (.int (2 : Int32)), .val (.ref a32), .val (.int ((Int32.toUInt32 (p7 &&& (255 : Int32))).toUInt16.toUInt32.toInt32)), .val (.int ((Int32.toUInt32 ((XT.ushr p7 (8 : Int32)) &&& (255 : Int32))).toUInt16.toUInt32.toInt32)), .val (.int ((Int32.toUInt32 (((Int32.toUInt32 (p7 &&& (255 : Int32))).toUInt16.toUInt32.toInt32) ^^^ (((XT.ushr p7 (16 : Int32)) &&& (1 : Int32)) <<< ((5 : Int32) &&& 31)))).toUInt16.toUInt32.toInt32)), .unset, .unset, .unset, .unset, .unset, .unset, .unset, .unset, .unset] [(.int (((XT.ushr p7 (17 : Int32)) &&& (1 : Int32)) <<< ((5 : Int32) &&& 31))), (.int ((Int32.toUInt32 ((XT.ushr p7 (8 : Int32)) &&& (255 : Int32))).toUInt16.toUInt32.toInt32))])
        refine Fin.go (fun _ k => XT.ixor X34.here hx rfl (hb hby at_151) rfl k) ?_
        refine Fin.go (fun _ k => XT.i2c X34.here hx rfl (hb hby at_152) rfl k) ?_
        refine Fin.go (fun _ k => XS.istore X34.here hx rfl (hb hby at_153) rfl (l' := #[.val (.int p0), .val (.int p1), .val (.long w0), .second, .val (.long w1), .second, .val (.int p6), .val (.int p7), .val (.int (p1 &&& (3 : Int32))), .val (.int x9), .val (.int (2 : Int32)), .val (.ref a32), .val (.int ((Int32.toUInt32 (p7 &&& (255 : Int32))).toUInt16.toUInt32.toInt32)), .val (.int ((Int32.toUInt32 ((XT.ushr p7 (8 : Int32)) &&& (255 : Int32))).toUInt16.toUInt32.toInt32)), .val (.int ((Int32.toUInt32 (((Int32.toUInt32 (p7 &&& (255 : Int32))).toUInt16.toUInt32.toInt32) ^^^ (((XT.ushr p7 (16 : Int32)) &&& (1 : Int32)) <<< ((5 : Int32) &&& 31)))).toUInt16.toUInt32.toInt32)), .val (.int ((Int32.toUInt32 (((Int32.toUInt32 ((XT.ushr p7 (8 : Int32)) &&& (255 : Int32))).toUInt16.toUInt32.toInt32) ^^^ (((XT.ushr p7 (17 : Int32)) &&& (1 : Int32)) <<< ((5 : Int32) &&& 31)))).toUInt16.toUInt32.toInt32)), .unset, .unset, .unset, .unset, .unset, .unset, .unset, .unset]) rfl k) ?_
        refine Fin.go (fun _ k => XS.iload X34.here hx rfl (hb hby at_155) rfl k) ?_
        show Fin _ p e below s _ _ _ T34 (mkF m 157 #[.val (.int p0), .val (.int p1), .val (.long w0), .second, .val (.long w1), .second, .val (.int p6), .val (.int p7), .val (.int (p1 &&& (3 : Int32))), .val (.int x9), .val (.int (2 : Int32)), .val (.ref a32), .val (.int ((Int32.toUInt32 (p7 &&& (255 : Int32))).toUInt16.toUInt32.toInt32)), .val (.int ((Int32.toUInt32 ((XT.ushr p7 (8 : Int32)) &&& (255 : Int32))).toUInt16.toUInt32.toInt32)), .val (.int ((Int32.toUInt32 (((Int32.toUInt32 (p7 &&& (255 : Int32))).toUInt16.toUInt32.toInt32) ^^^ (((XT.ushr p7 (16 : Int32)) &&& (1 : Int32)) <<< ((5 : Int32) &&& 31)))).toUInt16.toUInt32.toInt32)), .val (.int ((Int32.toUInt32 (((Int32.toUInt32 ((XT.ushr p7 (8 : Int32)) &&& (255 : Int32))).toUInt16.toUInt32.toInt32) ^^^ (((XT.ushr p7 (17 : Int32)) &&& (1 : Int32)) <<< ((5 : Int32) &&& 31)))).toUInt16.toUInt32.toInt32)), .unset, .unset, .unset, .unset, .unset, .unset, .unset, .unset] [(.int p7)])
        refine Fin.go (fun _ k => XS.bipush X34.here hx rfl (hb hby at_157) k) ?_
        refine Fin.go (fun _ k => XT.iushr X34.here hx rfl (hb hby at_159) rfl k) ?_
        refine Fin.go (fun _ k => XS.iconst X34.here hx rfl (hb hby at_160) k) ?_
        refine Fin.go (fun _ k => XS.iand X34.here hx rfl (hb hby at_161) rfl k) ?_
        show Fin _ p e below s _ _ _ T34 (mkF m 162 #[.val (.int p0), .val (.int p1), .val (.long w0), .second, .val (.long w1), .second, .val (.int p6), .val (.int p7), .val (.int (p1 &&& (3 : Int32))), .val (.int x9), .val (.int (2 : Int32)), .val (.ref a32), .val (.int ((Int32.toUInt32 (p7 &&& (255 : Int32))).toUInt16.toUInt32.toInt32)), .val (.int ((Int32.toUInt32 ((XT.ushr p7 (8 : Int32)) &&& (255 : Int32))).toUInt16.toUInt32.toInt32)), .val (.int ((Int32.toUInt32 (((Int32.toUInt32 (p7 &&& (255 : Int32))).toUInt16.toUInt32.toInt32) ^^^ (((XT.ushr p7 (16 : Int32)) &&& (1 : Int32)) <<< ((5 : Int32) &&& 31)))).toUInt16.toUInt32.toInt32)), .val (.int ((Int32.toUInt32 (((Int32.toUInt32 ((XT.ushr p7 (8 : Int32)) &&& (255 : Int32))).toUInt16.toUInt32.toInt32) ^^^ (((XT.ushr p7 (17 : Int32)) &&& (1 : Int32)) <<< ((5 : Int32) &&& 31)))).toUInt16.toUInt32.toInt32)), .unset, .unset, .unset, .unset, .unset, .unset, .unset, .unset] [(.int ((XT.ushr p7 (18 : Int32)) &&& (3 : Int32)))])
        refine Fin.go (fun _ k => XS.iconst X34.here hx rfl (hb hby at_162) k) ?_
        refine Fin.go (fun _ k => iremM X34 hx rfl (hb hby at_163) rfl (by decide) k) ?_
        refine Fin.go (fun _ k => XS.istore X34.here hx rfl (hb hby at_164) rfl (l' := #[.val (.int p0), .val (.int p1), .val (.long w0), .second, .val (.long w1), .second, .val (.int p6), .val (.int p7), .val (.int (p1 &&& (3 : Int32))), .val (.int x9), .val (.int (2 : Int32)), .val (.ref a32), .val (.int ((Int32.toUInt32 (p7 &&& (255 : Int32))).toUInt16.toUInt32.toInt32)), .val (.int ((Int32.toUInt32 ((XT.ushr p7 (8 : Int32)) &&& (255 : Int32))).toUInt16.toUInt32.toInt32)), .val (.int ((Int32.toUInt32 (((Int32.toUInt32 (p7 &&& (255 : Int32))).toUInt16.toUInt32.toInt32) ^^^ (((XT.ushr p7 (16 : Int32)) &&& (1 : Int32)) <<< ((5 : Int32) &&& 31)))).toUInt16.toUInt32.toInt32)), .val (.int ((Int32.toUInt32 (((Int32.toUInt32 ((XT.ushr p7 (8 : Int32)) &&& (255 : Int32))).toUInt16.toUInt32.toInt32) ^^^ (((XT.ushr p7 (17 : Int32)) &&& (1 : Int32)) <<< ((5 : Int32) &&& 31)))).toUInt16.toUInt32.toInt32)), .val (.int (((XT.ushr p7 (18 : Int32)) &&& (3 : Int32)) % (3 : Int32))), .unset, .unset, .unset, .unset, .unset, .unset, .unset]) rfl k) ?_
        refine Fin.go (fun _ k => XS.iload X34.here hx rfl (hb hby at_166) rfl k) ?_
        show Fin _ p e below s _ _ _ T34 (mkF m 168 #[.val (.int p0), .val (.int p1), .val (.long w0), .second, .val (.long w1), .second, .val (.int p6), .val (.int p7), .val (.int (p1 &&& (3 : Int32))), .val (.int x9), .val (.int (2 : Int32)), .val (.ref a32), .val (.int ((Int32.toUInt32 (p7 &&& (255 : Int32))).toUInt16.toUInt32.toInt32)), .val (.int ((Int32.toUInt32 ((XT.ushr p7 (8 : Int32)) &&& (255 : Int32))).toUInt16.toUInt32.toInt32)), .val (.int ((Int32.toUInt32 (((Int32.toUInt32 (p7 &&& (255 : Int32))).toUInt16.toUInt32.toInt32) ^^^ (((XT.ushr p7 (16 : Int32)) &&& (1 : Int32)) <<< ((5 : Int32) &&& 31)))).toUInt16.toUInt32.toInt32)), .val (.int ((Int32.toUInt32 (((Int32.toUInt32 ((XT.ushr p7 (8 : Int32)) &&& (255 : Int32))).toUInt16.toUInt32.toInt32) ^^^ (((XT.ushr p7 (17 : Int32)) &&& (1 : Int32)) <<< ((5 : Int32) &&& 31)))).toUInt16.toUInt32.toInt32)), .val (.int (((XT.ushr p7 (18 : Int32)) &&& (3 : Int32)) % (3 : Int32))), .unset, .unset, .unset, .unset, .unset, .unset, .unset] [(.int p7)])
        refine Fin.go (fun _ k => XS.bipush X34.here hx rfl (hb hby at_168) k) ?_
        refine Fin.go (fun _ k => XT.iushr X34.here hx rfl (hb hby at_170) rfl k) ?_
        refine Fin.go (fun _ k => XS.iconst X34.here hx rfl (hb hby at_171) k) ?_
        refine Fin.go (fun _ k => XS.iand X34.here hx rfl (hb hby at_172) rfl k) ?_
        show Fin _ p e below s _ _ _ T34 (mkF m 173 #[.val (.int p0), .val (.int p1), .val (.long w0), .second, .val (.long w1), .second, .val (.int p6), .val (.int p7), .val (.int (p1 &&& (3 : Int32))), .val (.int x9), .val (.int (2 : Int32)), .val (.ref a32), .val (.int ((Int32.toUInt32 (p7 &&& (255 : Int32))).toUInt16.toUInt32.toInt32)), .val (.int ((Int32.toUInt32 ((XT.ushr p7 (8 : Int32)) &&& (255 : Int32))).toUInt16.toUInt32.toInt32)), .val (.int ((Int32.toUInt32 (((Int32.toUInt32 (p7 &&& (255 : Int32))).toUInt16.toUInt32.toInt32) ^^^ (((XT.ushr p7 (16 : Int32)) &&& (1 : Int32)) <<< ((5 : Int32) &&& 31)))).toUInt16.toUInt32.toInt32)), .val (.int ((Int32.toUInt32 (((Int32.toUInt32 ((XT.ushr p7 (8 : Int32)) &&& (255 : Int32))).toUInt16.toUInt32.toInt32) ^^^ (((XT.ushr p7 (17 : Int32)) &&& (1 : Int32)) <<< ((5 : Int32) &&& 31)))).toUInt16.toUInt32.toInt32)), .val (.int (((XT.ushr p7 (18 : Int32)) &&& (3 : Int32)) % (3 : Int32))), .unset, .unset, .unset, .unset, .unset, .unset, .unset] [(.int ((XT.ushr p7 (20 : Int32)) &&& (3 : Int32)))])
        refine Fin.go (fun _ k => XS.iconst X34.here hx rfl (hb hby at_173) k) ?_
        refine Fin.go (fun _ k => iremM X34 hx rfl (hb hby at_174) rfl (by decide) k) ?_
        refine Fin.go (fun _ k => XS.istore X34.here hx rfl (hb hby at_175) rfl (l' := #[.val (.int p0), .val (.int p1), .val (.long w0), .second, .val (.long w1), .second, .val (.int p6), .val (.int p7), .val (.int (p1 &&& (3 : Int32))), .val (.int x9), .val (.int (2 : Int32)), .val (.ref a32), .val (.int ((Int32.toUInt32 (p7 &&& (255 : Int32))).toUInt16.toUInt32.toInt32)), .val (.int ((Int32.toUInt32 ((XT.ushr p7 (8 : Int32)) &&& (255 : Int32))).toUInt16.toUInt32.toInt32)), .val (.int ((Int32.toUInt32 (((Int32.toUInt32 (p7 &&& (255 : Int32))).toUInt16.toUInt32.toInt32) ^^^ (((XT.ushr p7 (16 : Int32)) &&& (1 : Int32)) <<< ((5 : Int32) &&& 31)))).toUInt16.toUInt32.toInt32)), .val (.int ((Int32.toUInt32 (((Int32.toUInt32 ((XT.ushr p7 (8 : Int32)) &&& (255 : Int32))).toUInt16.toUInt32.toInt32) ^^^ (((XT.ushr p7 (17 : Int32)) &&& (1 : Int32)) <<< ((5 : Int32) &&& 31)))).toUInt16.toUInt32.toInt32)), .val (.int (((XT.ushr p7 (18 : Int32)) &&& (3 : Int32)) % (3 : Int32))), .val (.int (((XT.ushr p7 (20 : Int32)) &&& (3 : Int32)) % (3 : Int32))), .unset, .unset, .unset, .unset, .unset, .unset]) rfl k) ?_
        show Fin _ p e below s _ _ _ T34 (mkF m 177 #[.val (.int p0), .val (.int p1), .val (.long w0), .second, .val (.long w1), .second, .val (.int p6), .val (.int p7), .val (.int (p1 &&& (3 : Int32))), .val (.int x9), .val (.int (2 : Int32)), .val (.ref a32), .val (.int ((Int32.toUInt32 (p7 &&& (255 : Int32))).toUInt16.toUInt32.toInt32)), .val (.int ((Int32.toUInt32 ((XT.ushr p7 (8 : Int32)) &&& (255 : Int32))).toUInt16.toUInt32.toInt32)), .val (.int ((Int32.toUInt32 (((Int32.toUInt32 (p7 &&& (255 : Int32))).toUInt16.toUInt32.toInt32) ^^^ (((XT.ushr p7 (16 : Int32)) &&& (1 : Int32)) <<< ((5 : Int32) &&& 31)))).toUInt16.toUInt32.toInt32)), .val (.int ((Int32.toUInt32 (((Int32.toUInt32 ((XT.ushr p7 (8 : Int32)) &&& (255 : Int32))).toUInt16.toUInt32.toInt32) ^^^ (((XT.ushr p7 (17 : Int32)) &&& (1 : Int32)) <<< ((5 : Int32) &&& 31)))).toUInt16.toUInt32.toInt32)), .val (.int (((XT.ushr p7 (18 : Int32)) &&& (3 : Int32)) % (3 : Int32))), .val (.int (((XT.ushr p7 (20 : Int32)) &&& (3 : Int32)) % (3 : Int32))), .unset, .unset, .unset, .unset, .unset, .unset] [])
        have rA0 := r255_and p7
        have rA1 := r255_and (XT.ushr p7 (8 : Int32))
        have rB0 := r255_xor rA0 (XT.ushr p7 (16 : Int32))
        have rB1 := r255_xor rA1 (XT.ushr p7 (17 : Int32))
        have hLu := mod3 (XT.ushr p7 (18 : Int32))
        have hLg := mod3 (XT.ushr p7 (20 : Int32))
        generalize hhB0 : ((Int32.toUInt32 (((Int32.toUInt32 (p7 &&& (255 : Int32))).toUInt16.toUInt32.toInt32) ^^^ (((XT.ushr p7 (16 : Int32)) &&& (1 : Int32)) <<< ((5 : Int32) &&& 31)))).toUInt16.toUInt32.toInt32) = B0 at rB0 ⊢
        generalize hhB1 : ((Int32.toUInt32 (((Int32.toUInt32 ((XT.ushr p7 (8 : Int32)) &&& (255 : Int32))).toUInt16.toUInt32.toInt32) ^^^ (((XT.ushr p7 (17 : Int32)) &&& (1 : Int32)) <<< ((5 : Int32) &&& 31)))).toUInt16.toUInt32.toInt32) = B1 at rB1 ⊢
        generalize hhA0 : ((Int32.toUInt32 (p7 &&& (255 : Int32))).toUInt16.toUInt32.toInt32) = A0 at rA0 ⊢
        generalize hhA1 : ((Int32.toUInt32 ((XT.ushr p7 (8 : Int32)) &&& (255 : Int32))).toUInt16.toUInt32.toInt32) = A1 at rA1 ⊢
        generalize hhLu : (((XT.ushr p7 (18 : Int32)) &&& (3 : Int32)) % (3 : Int32)) = Lu at hLu ⊢
        generalize hhLg : (((XT.ushr p7 (20 : Int32)) &&& (3 : Int32)) % (3 : Int32)) = Lg at hLg ⊢
        show Fin _ p e below s _ _ _ T34 (mkF m 177 #[.val (.int p0), .val (.int p1), .val (.long w0), .second, .val (.long w1), .second, .val (.int p6), .val (.int p7), .val (.int (p1 &&& (3 : Int32))), .val (.int x9), .val (.int (2 : Int32)), .val (.ref a32), .val (.int A0), .val (.int A1), .val (.int B0), .val (.int B1), .val (.int Lu), .val (.int Lg), .unset, .unset, .unset, .unset, .unset, .unset] [])
        refine Fin.go (fun _ k => XS.iload X34.here hx rfl (hb hby at_177) rfl k) ?_
        refine Fin.go (fun _ k => XS.iload X34.here hx rfl (hb hby at_179) rfl k) ?_
        refine Fin.go (fun _ k => XS.iload X34.here hx rfl (hb hby at_181) rfl k) ?_
        obtain ⟨v35, T35, L35, X35, hS35, hZ35, hown35, RC35, q35, st35⟩ := callStH X34 hx hZ (y := (⟨"com/example/grantwell/grantwell/engine/PrincipalCountsPinLaw", "str", "(ICC)Ljava/lang/String;"⟩ : MethodName)) hown (hw _ w_2) (hw _ w_3) (hw _ w_4) (hw _ w_5) (by decide) (W := 0) (rmS l Z a0 hw n0 h34 O34 Lu A0 A1 rA0 rA1 cs S_cs hcs) e34 hS hk34 hEL RR34.1 (by decide) (by decide) (by decide) (by decide) (g := (mkF m 183 #[.val (.int p0), .val (.int p1), .val (.long w0), .second, .val (.long w1), .second, .val (.int p6), .val (.int p7), .val (.int (p1 &&& (3 : Int32))), .val (.int x9), .val (.int (2 : Int32)), .val (.ref a32), .val (.int A0), .val (.int A1), .val (.int B0), .val (.int B1), .val (.int Lu), .val (.int Lg), .unset, .unset, .unset, .unset, .unset, .unset] [(.int A1), (.int A0), (.int Lu)])) rfl (by rw [hml]; rfl) (argsL := [(.int Lu), (.int A0), (.int A1)]) (rest := []) (lenOf pd_oICCcLjava_lang_String_ rfl) rfl (by show 2 * 0 + _ ≤ _; exact Nat.le_of_eq rfl) (hb hby at_183)
        obtain ⟨a35, rfl, Nq35, Kq35, Z35, zd35⟩ := q35
        have N35 := Fr.app N34 Nq35
        have O35 := O34.keep Kq35 all0
        have RR35 := RR34.trans RC35
        refine Fin.go st35 ?_
        show Fin _ p e below s _ _ _ T35 (mkF m 186 #[.val (.int p0), .val (.int p1), .val (.long w0), .second, .val (.long w1), .second, .val (.int p6), .val (.int p7), .val (.int (p1 &&& (3 : Int32))), .val (.int x9), .val (.int (2 : Int32)), .val (.ref a32), .val (.int A0), .val (.int A1), .val (.int B0), .val (.int B1), .val (.int Lu), .val (.int Lg), .unset, .unset, .unset, .unset, .unset, .unset] [(.ref a35)])
        have nzd35 : n0 ≤ a35 := Nat.le_trans (by have := O34.1; have := O34.2.1; omega) zd35
        refine Fin.go (fun _ k => XS.astore X35.here hx rfl (hb hby at_186) rfl rfl (l' := #[.val (.int p0), .val (.int p1), .val (.long w0), .second, .val (.long w1), .second, .val (.int p6), .val (.int p7), .val (.int (p1 &&& (3 : Int32))), .val (.int x9), .val (.int (2 : Int32)), .val (.ref a32), .val (.int A0), .val (.int A1), .val (.int B0), .val (.int B1), .val (.int Lu), .val (.int Lg), .val (.ref a35), .unset, .unset, .unset, .unset, .unset]) rfl k) ?_
        refine Fin.go (fun _ k => XS.iload X35.here hx rfl (hb hby at_188) rfl k) ?_
        refine Fin.go (fun _ k => XS.iload X35.here hx rfl (hb hby at_190) rfl k) ?_
        refine Fin.go (fun _ k => XS.iload X35.here hx rfl (hb hby at_192) rfl k) ?_
        show Fin _ p e below s _ _ _ T35 (mkF m 194 #[.val (.int p0), .val (.int p1), .val (.long w0), .second, .val (.long w1), .second, .val (.int p6), .val (.int p7), .val (.int (p1 &&& (3 : Int32))), .val (.int x9), .val (.int (2 : Int32)), .val (.ref a32), .val (.int A0), .val (.int A1), .val (.int B0), .val (.int B1), .val (.int Lu), .val (.int Lg), .val (.ref a35), .unset, .unset, .unset, .unset, .unset] [(.int B1), (.int B0), (.int Lg)])
        obtain ⟨v36, T36, L36, X36, hS36, hZ36, hown36, RC36, q36, st36⟩ := callStH X35 hx hZ35 (y := (⟨"com/example/grantwell/grantwell/engine/PrincipalCountsPinLaw", "str", "(ICC)Ljava/lang/String;"⟩ : MethodName)) hown35 (hw _ w_2) (hw _ w_3) (hw _ w_4) (hw _ w_5) (by decide) (W := 0) (rmS l Z a0 hw n0 T35.heap O35 Lg B0 B1 rB0 rB1 cs S_cs hcs) (rfl : T35.heap = T35.heap) hS35 (Nat.le_refl T35.heap.size) hEL RR35.1 (by decide) (by decide) (by decide) (by decide) (g := (mkF m 194 #[.val (.int p0), .val (.int p1), .val (.long w0), .second, .val (.long w1), .second, .val (.int p6), .val (.int p7), .val (.int (p1 &&& (3 : Int32))), .val (.int x9), .val (.int (2 : Int32)), .val (.ref a32), .val (.int A0), .val (.int A1), .val (.int B0), .val (.int B1), .val (.int Lu), .val (.int Lg), .val (.ref a35), .unset, .unset, .unset, .unset, .unset] [(.int B1), (.int B0), (.int Lg)])) rfl (by rw [hml]; rfl) (argsL := [(.int Lg), (.int B0), (.int B1)]) (rest := []) (lenOf pd_oICCcLjava_lang_String_ rfl) rfl (by show 2 * 0 + _ ≤ _; exact Nat.le_of_eq rfl) (hb hby at_194)
        obtain ⟨a36, rfl, Nq36, Kq36, Z36, zd36⟩ := q36
        have N36 := Fr.app N35 Nq36
        have O36 := O35.keep Kq36 all0
        have RR36 := RR35.trans RC36
        refine Fin.go st36 ?_
        show Fin _ p e below s _ _ _ T36 (mkF m 197 #[.val (.int p0), .val (.int p1), .val (.long w0), .second, .val (.long w1), .second, .val (.int p6), .val (.int p7), .val (.int (p1 &&& (3 : Int32))), .val (.int x9), .val (.int (2 : Int32)), .val (.ref a32), .val (.int A0), .val (.int A1), .val (.int B0), .val (.int B1), .val (.int Lu), .val (.int Lg), .val (.ref a35), .unset, .unset, .unset, .unset, .unset] [(.ref a36)])
        have nzd36 : n0 ≤ a36 := Nat.le_trans (by have := O35.1; have := O35.2.1; omega) zd36
        refine Fin.go (fun _ k => XS.astore X36.here hx rfl (hb hby at_197) rfl rfl (l' := #[.val (.int p0), .val (.int p1), .val (.long w0), .second, .val (.long w1), .second, .val (.int p6), .val (.int p7), .val (.int (p1 &&& (3 : Int32))), .val (.int x9), .val (.int (2 : Int32)), .val (.ref a32), .val (.int A0), .val (.int A1), .val (.int B0), .val (.int B1), .val (.int Lu), .val (.int Lg), .val (.ref a35), .val (.ref a36), .unset, .unset, .unset, .unset]) rfl k) ?_
        obtain ⟨T37, h37, X37, e37, E37, A37, D37, U37, st37⟩ := newO X36 hx hZ36 hown36 (hw _ w_28) (hw _ w_29) (hw _ w_30) (rfl : T36.heap = T36.heap) (g := (mkF m 199 #[.val (.int p0), .val (.int p1), .val (.long w0), .second, .val (.long w1), .second, .val (.int p6), .val (.int p7), .val (.int (p1 &&& (3 : Int32))), .val (.int x9), .val (.int (2 : Int32)), .val (.ref a32), .val (.int A0), .val (.int A1), .val (.int B0), .val (.int B1), .val (.int Lu), .val (.int Lg), .val (.ref a35), .val (.ref a36), .unset, .unset, .unset, .unset] [])) rfl (hb hby at_199) (by decide) (by decide)
        obtain ⟨a37, g37⟩ : ∃ z, z = T36.heap.size := ⟨_, rfl⟩
        rw [← g37] at A37 D37 U37 st37
        refine Fin.go st37 ?_
        have O37 := O36.ext E37
        have hk37 := Nat.le_trans (Nat.le_refl T36.heap.size) E37.1
        have RR37 := RR36.trans (CHr.ext E37 RR36.1)
        have n37 : n0 ≤ a37 := by have := O36.2.1; have := O36.1; omega
        have F37_grantee : Fld Z h37 a37 "com/example/grantwell/grantwell/catalog/Grant" "grantee" "Ljava/lang/String;" .null := D37 (Or.inr (hw _ w_67)) (ty := (.object "java/lang/String")) (by decide)
        have F37_grantor : Fld Z h37 a37 "com/example/grantwell/grantwell/catalog/Grant" "grantor" "Ljava/lang/String;" .null := D37 (Or.inr (hw _ w_69)) (ty := (.object "java/lang/String")) (by decide)
        have F37_action : Fld Z h37 a37 "com/example/grantwell/grantwell/catalog/Grant" "action" "Lcom/example/grantwell/grantwell/catalog/Action;" .null := D37 (Or.inr (hw _ w_71)) (ty := (.object "com/example/grantwell/grantwell/catalog/Action")) (by decide)
        have F37_grantOption : Fld Z h37 a37 "com/example/grantwell/grantwell/catalog/Grant" "grantOption" "Z" (.int (0 : Int32)) := D37 (Or.inr (hw _ w_73)) (ty := .boolean) (by decide)
        show Fin _ p e below s _ _ _ T37 (mkF m 202 #[.val (.int p0), .val (.int p1), .val (.long w0), .second, .val (.long w1), .second, .val (.int p6), .val (.int p7), .val (.int (p1 &&& (3 : Int32))), .val (.int x9), .val (.int (2 : Int32)), .val (.ref a32), .val (.int A0), .val (.int A1), .val (.int B0), .val (.int B1), .val (.int Lu), .val (.int Lg), .val (.ref a35), .val (.ref a36), .unset, .unset, .unset, .unset] [(.ref a37)])
        refine Fin.go (fun _ k => XS.dup X37.here hx rfl (hb hby at_202) rfl rfl k) ?_
        refine Fin.go (fun _ k => XS.aload X37.here hx rfl (hb hby at_203) rfl rfl k) ?_
        refine Fin.go (fun _ k => XS.aload X37.here hx rfl (hb hby at_205) rfl rfl k) ?_
        obtain ⟨T38, X38, e38, st38⟩ := getS2 X37 hx hZ36 hown36 (host := "") (Or.inl (hw _ w_31)) Via.refl e37 (S_aS.ext O37.2) (g := (mkF m 207 #[.val (.int p0), .val (.int p1), .val (.long w0), .second, .val (.long w1), .second, .val (.int p6), .val (.int p7), .val (.int (p1 &&& (3 : Int32))), .val (.int x9), .val (.int (2 : Int32)), .val (.ref a32), .val (.int A0), .val (.int A1), .val (.int B0), .val (.int B1), .val (.int Lu), .val (.int Lg), .val (.ref a35), .val (.ref a36), .unset, .unset, .unset, .unset] [(.ref a35), (.ref a36), (.ref a37), (.ref a37)])) rfl (hb hby at_207)
        refine Fin.go st38 ?_
        show Fin _ p e below s _ _ _ T38 (mkF m 210 #[.val (.int p0), .val (.int p1), .val (.long w0), .second, .val (.long w1), .second, .val (.int p6), .val (.int p7), .val (.int (p1 &&& (3 : Int32))), .val (.int x9), .val (.int (2 : Int32)), .val (.ref a32), .val (.int A0), .val (.int A1), .val (.int B0), .val (.int B1), .val (.int Lu), .val (.int Lg), .val (.ref a35), .val (.ref a36), .unset, .unset, .unset, .unset] [(.ref aS), (.ref a35), (.ref a36), (.ref a37), (.ref a37)])
        obtain ⟨v39, T39, L39, X39, hS39, hZ39, hown39, RC39, q39, st39⟩ := callStH X38 hx hZ36 (y := (⟨"com/example/grantwell/grantwell/catalog/Action", "onTable", "(Lcom/example/grantwell/grantwell/catalog/Privilege;)Lcom/example/grantwell/grantwell/catalog/Action;"⟩ : MethodName)) hown36 (hw _ w_34) (hw _ w_35) (hw _ w_36) (hw _ w_37) (by decide) (W := 4) (rmOT l Z a0 hw n0 h37 O37 aS) e38 hS36 hk37 hEL RR37.1 (by decide) (by decide) (by decide) (by decide) (g := (mkF m 210 #[.val (.int p0), .val (.int p1), .val (.long w0), .second, .val (.long w1), .second, .val (.int p6), .val (.int p7), .val (.int (p1 &&& (3 : Int32))), .val (.int x9), .val (.int (2 : Int32)), .val (.ref a32), .val (.int A0), .val (.int A1), .val (.int B0), .val (.int B1), .val (.int Lu), .val (.int Lg), .val (.ref a35), .val (.ref a36), .unset, .unset, .unset, .unset] [(.ref aS), (.ref a35), (.ref a36), (.ref a37), (.ref a37)])) rfl (by rw [hml]; rfl) (argsL := [(.ref aS)]) (rest := [(.ref a35), (.ref a36), (.ref a37), (.ref a37)]) (lenOf pd_oLcom_example_grantwell_grantwell_catalog_Privilege_cLcom_example_grantwell_grantwell_catalog_Action_ rfl) rfl (by show 2 * 0 + _ ≤ _; exact Nat.le_of_eq rfl) (hb hby at_210)
        obtain ⟨o39, rfl, Nq39, Kq39⟩ := q39
        have N39 := Fr.app N36 Nq39
        have O39 := O37.keep Kq39 all0
        have RR39 := RR37.trans RC39
        refine Fin.go st39 ?_
        have V39_a32 := ((((V34.keep Kq35 nin0).keep Kq36 nin0).ext E37).keep Kq39 nin0)
        show Fin _ p e below s _ _ _ T39 (mkF m 213 #[.val (.int p0), .val (.int p1), .val (.long w0), .second, .val (.long w1), .second, .val (.int p6), .val (.int p7), .val (.int (p1 &&& (3 : Int32))), .val (.int x9), .val (.int (2 : Int32)), .val (.ref a32), .val (.int A0), .val (.int A1), .val (.int B0), .val (.int B1), .val (.int Lu), .val (.int Lg), .val (.ref a35), .val (.ref a36), .unset, .unset, .unset, .unset] [(.ref o39), (.ref a35), (.ref a36), (.ref a37), (.ref a37)])
        have tl : ∀ (z : Int32) (hz : z = 0 ∨ z = 1), Fin (EH Z EL) p e below s (fun v h L => v = some (.int 1) ∧ Fr n0 L) room_1.cells room_1.slots T39 (mkF m 224 #[.val (.int p0), .val (.int p1), .val (.long w0), .second, .val (.long w1), .second, .val (.int p6), .val (.int p7), .val (.int (p1 &&& (3 : Int32))), .val (.int x9), .val (.int (2 : Int32)), .val (.ref a32), .val (.int A0), .val (.int A1), .val (.int B0), .val (.int B1), .val (.int Lu), .val (.int Lg), .val (.ref a35), .val (.ref a36), .unset, .unset, .unset, .unset] [(.int z), (.ref o39), (.ref a35), (.ref a36), (.ref a37), (.ref a37)]) := by
          intro z hz
          obtain ⟨v40, T40, L40, X40, hS40, hZ40, hown40, RC40, q40, st40⟩ := callCtH X39 hx hZ39 (y := (⟨"com/example/grantwell/grantwell/catalog/Grant", "<init>", "(Ljava/lang/String;Ljava/lang/String;Lcom/example/grantwell/grantwell/catalog/Action;Z)V"⟩ : MethodName)) rfl hown39 (hw _ w_58) (hw _ w_59) (hw _ w_30) (hw _ w_60) (by decide) (W := 1) (rmGr l Z a0 hw n0 T39.heap O39 a37 a36 a35 o39 z hz (A37.keep Kq39) (F37_grantee.keep Kq39 nin0) (F37_grantor.keep Kq39 nin0) (F37_action.keep Kq39 nin0) (F37_grantOption.keep Kq39 nin0) n37) (rfl : T39.heap = T39.heap) hS39 (Nat.le_refl T39.heap.size) hEL RR39.1 (by decide) (by decide) (by decide) (by decide) (g := (mkF m 224 #[.val (.int p0), .val (.int p1), .val (.long w0), .second, .val (.long w1), .second, .val (.int p6), .val (.int p7), .val (.int (p1 &&& (3 : Int32))), .val (.int x9), .val (.int (2 : Int32)), .val (.ref a32), .val (.int A0), .val (.int A1), .val (.int B0), .val (.int B1), .val (.int Lu), .val (.int Lg), .val (.ref a35), .val (.ref a36), .unset, .unset, .unset, .unset] [(.int z), (.ref o39), (.ref a35), (.ref a36), (.ref a37), (.ref a37)])) rfl (by rw [hml]; rfl) (a := a37) (argsL := [(.ref a36), (.ref a35), (.ref o39), (.int z)]) (rest := [(.ref a37)]) (lenOf pd_oLjava_lang_String_Ljava_lang_String_Lcom_example_grantwell_grantwell_catalog_Action_ZcV rfl) rfl (by show 2 * 0 + _ ≤ _; exact Nat.le_of_eq rfl) (hb hby at_224)
          obtain ⟨rfl, Nq40, Kq40, A40, F40⟩ := q40
          have N40 := Fr.app N39 Nq40
          have O40 := O39.keep Kq40 (allS n37 all0)
          have RR40 := RR39.trans RC40
          refine Fin.go st40 ?_
          have V40_a32 := (V39_a32.keep Kq40 (ninS (Nat.ne_of_lt (Nat.lt_of_lt_of_eq ((V34.keep Kq35 nin0).keep Kq36 nin0).lt g37.symm)) nin0))
          have Z40_a35 := ((((Z35.keep Kq36 all0).ext E37).keep Kq39 all0).keep Kq40 (allS (Nat.le_trans (Z35.keep Kq36 all0).le (Nat.le_of_eq g37.symm)) all0))
          have Z40_a36 := (((Z36.ext E37).keep Kq39 all0).keep Kq40 (allS (Nat.le_trans Z36.le (Nat.le_of_eq g37.symm)) all0))
          show Fin _ p e below s _ _ _ T40 (mkF m 227 #[.val (.int p0), .val (.int p1), .val (.long w0), .second, .val (.long w1), .second, .val (.int p6), .val (.int p7), .val (.int (p1 &&& (3 : Int32))), .val (.int x9), .val (.int (2 : Int32)), .val (.ref a32), .val (.int A0), .val (.int A1), .val (.int B0), .val (.int B1), .val (.int Lu), .val (.int Lg), .val (.ref a35), .val (.ref a36), .unset, .unset, .unset, .unset] [(.ref a37)])
          refine Fin.go (fun _ k => XS.astore X40.here hx rfl (hb hby at_227) rfl rfl (l' := #[.val (.int p0), .val (.int p1), .val (.long w0), .second, .val (.long w1), .second, .val (.int p6), .val (.int p7), .val (.int (p1 &&& (3 : Int32))), .val (.int x9), .val (.int (2 : Int32)), .val (.ref a32), .val (.int A0), .val (.int A1), .val (.int B0), .val (.int B1), .val (.int Lu), .val (.int Lg), .val (.ref a35), .val (.ref a36), .val (.ref a37), .unset, .unset, .unset]) rfl k) ?_
          obtain ⟨T41, h41, X41, e41, E41, A41, D41, U41, st41⟩ := newO X40 hx hZ40 hown40 (hw _ w_74) (hw _ w_75) (hw _ w_76) (rfl : T40.heap = T40.heap) (g := (mkF m 229 #[.val (.int p0), .val (.int p1), .val (.long w0), .second, .val (.long w1), .second, .val (.int p6), .val (.int p7), .val (.int (p1 &&& (3 : Int32))), .val (.int x9), .val (.int (2 : Int32)), .val (.ref a32), .val (.int A0), .val (.int A1), .val (.int B0), .val (.int B1), .val (.int Lu), .val (.int Lg), .val (.ref a35), .val (.ref a36), .val (.ref a37), .unset, .unset, .unset] [])) rfl (hb hby at_229) (by decide) (by decide)
          obtain ⟨a41, g41⟩ : ∃ z, z = T40.heap.size := ⟨_, rfl⟩
          rw [← g41] at A41 D41 U41 st41
          refine Fin.go st41 ?_
          have O41 := O40.ext E41
          have hk41 := Nat.le_trans (Nat.le_refl T40.heap.size) E41.1
          have RR41 := RR40.trans (CHr.ext E41 RR40.1)
          have n41 : n0 ≤ a41 := by have := O40.2.1; have := O40.1; omega
          have F41_user : Fld Z h41 a41 "com/example/grantwell/grantwell/engine/Principal" "user" "Ljava/lang/String;" .null := D41 (Or.inr (hw _ w_82)) (ty := (.object "java/lang/String")) (by decide)
          have F41_roles : Fld Z h41 a41 "com/example/grantwell/grantwell/engine/Principal" "roles" "Ljava/util/Set;" .null := D41 (Or.inr (hw _ w_84)) (ty := (.object "java/util/Set")) (by decide)
          have F41_numbered : Fld Z h41 a41 "com/example/grantwell/grantwell/engine/Principal" "numbered" "[J" .null := D41 (Or.inr (hw _ w_86)) (ty := (.array .long)) (by decide)
          show Fin _ p e below s _ _ _ T41 (mkF m 232 #[.val (.int p0), .val (.int p1), .val (.long w0), .second, .val (.long w1), .second, .val (.int p6), .val (.int p7), .val (.int (p1 &&& (3 : Int32))), .val (.int x9), .val (.int (2 : Int32)), .val (.ref a32), .val (.int A0), .val (.int A1), .val (.int B0), .val (.int B1), .val (.int Lu), .val (.int Lg), .val (.ref a35), .val (.ref a36), .val (.ref a37), .unset, .unset, .unset] [(.ref a41)])
          refine Fin.go (fun _ k => XS.dup X41.here hx rfl (hb hby at_232) rfl rfl k) ?_
          refine Fin.go (fun _ k => XS.aload X41.here hx rfl (hb hby at_233) rfl rfl k) ?_
          refine Fin.go (fun _ k => XS.aconstNull X41.here hx rfl (hb hby at_235) k) ?_
          refine Fin.go (fun _ k => XS.aload X41.here hx rfl (hb hby at_236) rfl rfl k) ?_
          show Fin _ p e below s _ _ _ T41 (mkF m 238 #[.val (.int p0), .val (.int p1), .val (.long w0), .second, .val (.long w1), .second, .val (.int p6), .val (.int p7), .val (.int (p1 &&& (3 : Int32))), .val (.int x9), .val (.int (2 : Int32)), .val (.ref a32), .val (.int A0), .val (.int A1), .val (.int B0), .val (.int B1), .val (.int Lu), .val (.int Lg), .val (.ref a35), .val (.ref a36), .val (.ref a37), .unset, .unset, .unset] [(.ref a32), .null, (.ref a35), (.ref a41), (.ref a41)])
          obtain ⟨v42, T42, L42, X42, q42, st42⟩ := callCt X41 hx hZ40 (y := (⟨"com/example/grantwell/grantwell/engine/Principal", "<init>", "(Ljava/lang/String;Ljava/util/Set;[J)V"⟩ : MethodName)) rfl hown40 (hw _ w_77) (hw _ w_78) (hw _ w_76) (hw _ w_79) (by decide) (W := 1) (rmPr l Z a0 hw n0 h41 O41 a41 a35 a32 A41 F41_user F41_roles F41_numbered n41) e41 (by decide) (by decide) (by decide) (by decide) (g := (mkF m 238 #[.val (.int p0), .val (.int p1), .val (.long w0), .second, .val (.long w1), .second, .val (.int p6), .val (.int p7), .val (.int (p1 &&& (3 : Int32))), .val (.int x9), .val (.int (2 : Int32)), .val (.ref a32), .val (.int A0), .val (.int A1), .val (.int B0), .val (.int B1), .val (.int Lu), .val (.int Lg), .val (.ref a35), .val (.ref a36), .val (.ref a37), .unset, .unset, .unset] [(.ref a32), .null, (.ref a35), (.ref a41), (.ref a41)])) rfl (by rw [hml]; rfl) (a := a41) (argsL := [(.ref a35), .null, (.ref a32)]) (rest := [(.ref a41)]) (lenOf pd_oLjava_lang_String_Ljava_util_Set_AJcV rfl) rfl (by show 2 * 0 + _ ≤ _; exact Nat.le_of_eq rfl) (hb hby at_238)
          obtain ⟨rfl, Nq42, Kq42, A42, F142, F242⟩ := q42
          have N42 := Fr.app N40 Nq42
          have O42 := O41.keep Kq42 (allS n41 all0)
          have RR42 := RR41.trans (CHr.keep Kq42 (sfS (Safe.exa hZ40.alike A41 (by decide) (by decide)) sf0) RR41.1)
          have hk42 := Nat.le_trans hk41 Kq42.1
          refine Fin.go st42 ?_
          have V42_a32 := ((V40_a32.ext E41).keep Kq42 (ninS (Nat.ne_of_lt (Nat.lt_of_lt_of_eq V40_a32.lt g41.symm)) nin0))
          have Z42_a35 := ((Z40_a35.ext E41).keep Kq42 (allS (Nat.le_trans Z40_a35.le (Nat.le_of_eq g41.symm)) all0))
          have Z42_a36 := ((Z40_a36.ext E41).keep Kq42 (allS (Nat.le_trans Z40_a36.le (Nat.le_of_eq g41.symm)) all0))
          have F42_a37_grantee := ((F40.ext E41).keep Kq42 (ninS (Nat.ne_of_lt (Nat.lt_of_lt_of_eq A40.lt g41.symm)) nin0))
          show Fin _ p e below s _ _ _ T42 (mkF m 241 #[.val (.int p0), .val (.int p1), .val (.long w0), .second, .val (.long w1), .second, .val (.int p6), .val (.int p7), .val (.int (p1 &&& (3 : Int32))), .val (.int x9), .val (.int (2 : Int32)), .val (.ref a32), .val (.int A0), .val (.int A1), .val (.int B0), .val (.int B1), .val (.int Lu), .val (.int Lg), .val (.ref a35), .val (.ref a36), .val (.ref a37), .unset, .unset, .unset] [(.ref a41)])
          refine Fin.go (fun _ k => XS.astore X42.here hx rfl (hb hby at_241) rfl rfl (l' := #[.val (.int p0), .val (.int p1), .val (.long w0), .second, .val (.long w1), .second, .val (.int p6), .val (.int p7), .val (.int (p1 &&& (3 : Int32))), .val (.int x9), .val (.int (2 : Int32)), .val (.ref a32), .val (.int A0), .val (.int A1), .val (.int B0), .val (.int B1), .val (.int Lu), .val (.int Lg), .val (.ref a35), .val (.ref a36), .val (.ref a37), .val (.ref a41), .unset, .unset]) rfl k) ?_
          refine Fin.go (fun _ k => XS.aload X42.here hx rfl (hb hby at_243) rfl rfl k) ?_
          refine Fin.go (fun _ k => XS.iload X42.here hx rfl (hb hby at_245) rfl k) ?_
          refine Fin.go (fun _ k => XS.aload X42.here hx rfl (hb hby at_247) rfl rfl k) ?_
          show Fin _ p e below s _ _ _ T42 (mkF m 249 #[.val (.int p0), .val (.int p1), .val (.long w0), .second, .val (.long w1), .second, .val (.int p6), .val (.int p7), .val (.int (p1 &&& (3 : Int32))), .val (.int x9), .val (.int (2 : Int32)), .val (.ref a32), .val (.int A0), .val (.int A1), .val (.int B0), .val (.int B1), .val (.int Lu), .val (.int Lg), .val (.ref a35), .val (.ref a36), .val (.ref a37), .val (.ref a41), .unset, .unset] [(.ref a37), (.int x9), (.ref a41)])
          obtain ⟨v43, T43, L43, X43, q43, st43⟩ := callVt X42 hx hZ40 (y := (⟨"com/example/grantwell/grantwell/engine/Principal", "counts", "(ILcom/example/grantwell/grantwell/catalog/Grant;)Z"⟩ : MethodName)) hown40 (hw _ w_87) (hw _ w_88) (hw _ w_90) (hw _ w_89) (hw _ w_76) (hw _ w_91) (by decide) (W := 0) (rmCnt2 l Z a0 hw n0 T42.heap O42 a41 a37 a36 a35 a32 k32 x9 (strL Lg B0 B1) (strL Lu A0 A1) T36.heap.size T35.heap.size w0 w1 cs S_cs hcs (Ne.symm (Nat.ne_of_lt (Nat.lt_of_lt_of_le Z35.lt zd36))) (strL_len _ _ _) (strL_len _ _ _) ((A40.ext E41).keep Kq42) F42_a37_grantee F142 F242 Z42_a36 Z42_a35 V42_a32) (rfl : T42.heap = T42.heap) A42 (by decide) (by decide) (by decide) (by decide) (g := (mkF m 249 #[.val (.int p0), .val (.int p1), .val (.long w0), .second, .val (.long w1), .second, .val (.int p6), .val (.int p7), .val (.int (p1 &&& (3 : Int32))), .val (.int x9), .val (.int (2 : Int32)), .val (.ref a32), .val (.int A0), .val (.int A1), .val (.int B0), .val (.int B1), .val (.int Lu), .val (.int Lg), .val (.ref a35), .val (.ref a36), .val (.ref a37), .val (.ref a41), .unset, .unset] [(.ref a37), (.int x9), (.ref a41)])) rfl (by rw [hml]; rfl) (argsL := [(.int x9), (.ref a37)]) (rest := []) (lenOf pd_oILcom_example_grantwell_grantwell_catalog_Grant_cZ rfl) rfl (by show 2 * 0 + _ ≤ _; exact Nat.le_of_eq rfl) (hb hby at_249)
          obtain ⟨rfl, e43, rfl⟩ := q43
          have N43 := Fr.app N42 (Fr.nil n0)
          refine Fin.go st43 ?_
          show Fin _ p e below s _ _ _ T43 (mkF m 252 #[.val (.int p0), .val (.int p1), .val (.long w0), .second, .val (.long w1), .second, .val (.int p6), .val (.int p7), .val (.int (p1 &&& (3 : Int32))), .val (.int x9), .val (.int (2 : Int32)), .val (.ref a32), .val (.int A0), .val (.int A1), .val (.int B0), .val (.int B1), .val (.int Lu), .val (.int Lg), .val (.ref a35), .val (.ref a36), .val (.ref a37), .val (.ref a41), .unset, .unset] [(.int (cnt2 x9 (eqI (strL Lg B0 B1) (strL Lu A0 A1)) w0 w1))])
          refine Fin.go (fun _ k => XS.istore X43.here hx rfl (hb hby at_252) rfl (l' := #[.val (.int p0), .val (.int p1), .val (.long w0), .second, .val (.long w1), .second, .val (.int p6), .val (.int p7), .val (.int (p1 &&& (3 : Int32))), .val (.int x9), .val (.int (2 : Int32)), .val (.ref a32), .val (.int A0), .val (.int A1), .val (.int B0), .val (.int B1), .val (.int Lu), .val (.int Lg), .val (.ref a35), .val (.ref a36), .val (.ref a37), .val (.ref a41), .val (.int (cnt2 x9 (eqI (strL Lg B0 B1) (strL Lu A0 A1)) w0 w1)), .unset]) rfl k) ?_
          refine Fin.go (fun _ k => XS.iload X43.here hx rfl (hb hby at_254) rfl k) ?_
          refine Fin.go (fun _ k => XS.iconst X43.here hx rfl (hb hby at_256) k) ?_
          by_cases c257 : x9 = (-1 : Int32)
          · refine Fin.go (fun _ k => XS.icmpNo X43.here hx rfl (hb hby at_257) rfl (XT.ii_ne_f c257) k) ?_
            show Fin _ p e below s _ _ _ T43 (mkF m 260 #[.val (.int p0), .val (.int p1), .val (.long w0), .second, .val (.long w1), .second, .val (.int p6), .val (.int p7), .val (.int (p1 &&& (3 : Int32))), .val (.int x9), .val (.int (2 : Int32)), .val (.ref a32), .val (.int A0), .val (.int A1), .val (.int B0), .val (.int B1), .val (.int Lu), .val (.int Lg), .val (.ref a35), .val (.ref a36), .val (.ref a37), .val (.ref a41), .val (.int (cnt2 x9 (eqI (strL Lg B0 B1) (strL Lu A0 A1)) w0 w1)), .unset] [])
            refine Fin.go (fun _ k => XS.iload X43.here hx rfl (hb hby at_260) rfl k) ?_
            refine Fin.go (fun _ k => XS.iload X43.here hx rfl (hb hby at_262) rfl k) ?_
            by_cases c264 : Lu = Lg
            · refine Fin.go (fun _ k => XS.icmpNo X43.here hx rfl (hb hby at_264) rfl (XT.ii_ne_f c264) k) ?_
              show Fin _ p e below s _ _ _ T43 (mkF m 267 #[.val (.int p0), .val (.int p1), .val (.long w0), .second, .val (.long w1), .second, .val (.int p6), .val (.int p7), .val (.int (p1 &&& (3 : Int32))), .val (.int x9), .val (.int (2 : Int32)), .val (.ref a32), .val (.int A0), .val (.int A1), .val (.int B0), .val (.int B1), .val (.int Lu), .val (.int Lg), .val (.ref a35), .val (.ref a36), .val (.ref a37), .val (.ref a41), .val (.int (cnt2 x9 (eqI (strL Lg B0 B1) (strL Lu A0 A1)) w0 w1)), .unset] [])
              refine Fin.go (fun _ k => XS.iload X43.here hx rfl (hb hby at_267) rfl k) ?_
              refine Fin.go (fun _ k => XS.iconst X43.here hx rfl (hb hby at_269) k) ?_
              by_cases c270 : Lu < (1 : Int32)
              · refine Fin.go (fun _ k => XS.icmpYes X43.here hx rfl (pc0 := 270) (pc' := 280) rfl (hb hby at_270) rfl (XT.ii_lt_t c270) (by decide) (by decide) k) ?_
                show Fin _ p e below s _ _ _ T43 (mkF m 280 #[.val (.int p0), .val (.int p1), .val (.long w0), .second, .val (.long w1), .second, .val (.int p6), .val (.int p7), .val (.int (p1 &&& (3 : Int32))), .val (.int x9), .val (.int (2 : Int32)), .val (.ref a32), .val (.int A0), .val (.int A1), .val (.int B0), .val (.int B1), .val (.int Lu), .val (.int Lg), .val (.ref a35), .val (.ref a36), .val (.ref a37), .val (.ref a41), .val (.int (cnt2 x9 (eqI (strL Lg B0 B1) (strL Lu A0 A1)) w0 w1)), .unset] [])
                refine Fin.go (fun _ k => XS.iload X43.here hx rfl (hb hby at_280) rfl k) ?_
                refine Fin.go (fun _ k => XS.iconst X43.here hx rfl (hb hby at_282) k) ?_
                by_cases c283 : Lu < (2 : Int32)
                · refine Fin.go (fun _ k => XS.icmpYes X43.here hx rfl (pc0 := 283) (pc' := 293) rfl (hb hby at_283) rfl (XT.ii_lt_t c283) (by decide) (by decide) k) ?_
                  show Fin _ p e below s _ _ _ T43 (mkF m 293 #[.val (.int p0), .val (.int p1), .val (.long w0), .second, .val (.long w1), .second, .val (.int p6), .val (.int p7), .val (.int (p1 &&& (3 : Int32))), .val (.int x9), .val (.int (2 : Int32)), .val (.ref a32), .val (.int A0), .val (.int A1), .val (.int B0), .val (.int B1), .val (.int Lu), .val (.int Lg), .val (.ref a35), .val (.ref a36), .val (.ref a37), .val (.ref a41), .val (.int (cnt2 x9 (eqI (strL Lg B0 B1) (strL Lu A0 A1)) w0 w1)), .unset] [])
                  refine Fin.go (fun _ k => XS.iconst X43.here hx rfl (hb hby at_293) k) ?_
                  refine Fin.go (fun _ k => XS.goto X43.here hx rfl (pc0 := 294) (pc' := 298) rfl (hb hby at_294) (by decide) (by decide) k) ?_
                  refine Fin.go (fun _ k => XS.istore X43.here hx rfl (hb hby at_298) rfl (l' := #[.val (.int p0), .val (.int p1), .val (.long w0), .second, .val (.long w1), .second, .val (.int p6), .val (.int p7), .val (.int (p1 &&& (3 : Int32))), .val (.int x9), .val (.int (2 : Int32)), .val (.ref a32), .val (.int A0), .val (.int A1), .val (.int B0), .val (.int B1), .val (.int Lu), .val (.int Lg), .val (.ref a35), .val (.ref a36), .val (.ref a37), .val (.ref a41), .val (.int (cnt2 x9 (eqI (strL Lg B0 B1) (strL Lu A0 A1)) w0 w1)), .val (.int (1 : Int32))]) rfl k) ?_
                  refine Fin.go (fun _ k => XS.goto X43.here hx rfl (pc0 := 300) (pc' := 390) rfl (hb hby at_300) (by decide) (by decide) k) ?_
                  show Fin _ p e below s _ _ _ T43 (mkF m 390 #[.val (.int p0), .val (.int p1), .val (.long w0), .second, .val (.long w1), .second, .val (.int p6), .val (.int p7), .val (.int (p1 &&& (3 : Int32))), .val (.int x9), .val (.int (2 : Int32)), .val (.ref a32), .val (.int A0), .val (.int A1), .val (.int B0), .val (.int B1), .val (.int Lu), .val (.int Lg), .val (.ref a35), .val (.ref a36), .val (.ref a37), .val (.ref a41), .val (.int (cnt2 x9 (eqI (strL Lg B0 B1) (strL Lu A0 A1)) w0 w1)), .val (.int (1 : Int32))] [])
                  refine Fin.go (fun _ k => XS.iload X43.here hx rfl (hb hby at_390) rfl k) ?_
                  refine Fin.go (fun _ k => XS.iload X43.here hx rfl (hb hby at_392) rfl k) ?_
                  refine Fin.go (fun _ k => XS.icmpNo X43.here hx rfl (hb hby at_394) rfl (XT.ii_ne_f (by rw [show cnt2 x9 (eqI (strL Lg B0 B1) (strL Lu A0 A1)) w0 w1 = eqI (strL Lg B0 B1) (strL Lu A0 A1) from if_pos c257, eq_fin hLu hLg rA0 rA1 rB0 rB1]; exact if_pos ⟨c264, Or.inl c270, Or.inl c283⟩)) k) ?_
                  show Fin _ p e below s _ _ _ T43 (mkF m 397 #[.val (.int p0), .val (.int p1), .val (.long w0), .second, .val (.long w1), .second, .val (.int p6), .val (.int p7), .val (.int (p1 &&& (3 : Int32))), .val (.int x9), .val (.int (2 : Int32)), .val (.ref a32), .val (.int A0), .val (.int A1), .val (.int B0), .val (.int B1), .val (.int Lu), .val (.int Lg), .val (.ref a35), .val (.ref a36), .val (.ref a37), .val (.ref a41), .val (.int (cnt2 x9 (eqI (strL Lg B0 B1) (strL Lu A0 A1)) w0 w1)), .val (.int (1 : Int32))] [])
                  refine Fin.go (fun _ k => XS.iconst X43.here hx rfl (hb hby at_397) k) ?_
                  refine Fin.go (fun _ k => XS.goto X43.here hx rfl (pc0 := 398) (pc' := 402) rfl (hb hby at_398) (by decide) (by decide) k) ?_
                  exact Fin.leaveH X43 hS40 hk42 hZ40 hEL e43 RR42 hlk (v := some (.int (nar .boolean (1 : Int32)))) (fun h => by rw [hret] at h; cases h) (by decide) (by decide) ⟨rfl, N43⟩ (fun fs hr => retN X43 hx (t := .boolean) hret (by simp) (hb hby at_402) hr)
                · refine Fin.go (fun _ k => XS.icmpNo X43.here hx rfl (hb hby at_283) rfl (XT.ii_lt_f c283) k) ?_
                  show Fin _ p e below s _ _ _ T43 (mkF m 286 #[.val (.int p0), .val (.int p1), .val (.long w0), .second, .val (.long w1), .second, .val (.int p6), .val (.int p7), .val (.int (p1 &&& (3 : Int32))), .val (.int x9), .val (.int (2 : Int32)), .val (.ref a32), .val (.int A0), .val (.int A1), .val (.int B0), .val (.int B1), .val (.int Lu), .val (.int Lg), .val (.ref a35), .val (.ref a36), .val (.ref a37), .val (.ref a41), .val (.int (cnt2 x9 (eqI (strL Lg B0 B1) (strL Lu A0 A1)) w0 w1)), .unset] [])
                  refine Fin.go (fun _ k => XS.iload X43.here hx rfl (hb hby at_286) rfl k) ?_
                  refine Fin.go (fun _ k => XS.iload X43.here hx rfl (hb hby at_288) rfl k) ?_
                  by_cases c290 : A1 = B1
                  · refine Fin.go (fun _ k => XS.icmpNo X43.here hx rfl (hb hby at_290) rfl (XT.ii_ne_f c290) k) ?_
                    show Fin _ p e below s _ _ _ T43 (mkF m 293 #[.val (.int p0), .val (.int p1), .val (.long w0), .second, .val (.long w1), .second, .val (.int p6), .val (.int p7), .val (.int (p1 &&& (3 : Int32))), .val (.int x9), .val (.int (2 : Int32)), .val (.ref a32), .val (.int A0), .val (.int A1), .val (.int B0), .val (.int B1), .val (.int Lu), .val (.int Lg), .val (.ref a35), .val (.ref a36), .val (.ref a37), .val (.ref a41), .val (.int (cnt2 x9 (eqI (strL Lg B0 B1) (strL Lu A0 A1)) w0 w1)), .unset] [])
                    refine Fin.go (fun _ k => XS.iconst X43.here hx rfl (hb hby at_293) k) ?_
                    refine Fin.go (fun _ k => XS.goto X43.here hx rfl (pc0 := 294) (pc' := 298) rfl (hb hby at_294) (by decide) (by decide) k) ?_
                    refine Fin.go (fun _ k => XS.istore X43.here hx rfl (hb hby at_298) rfl (l' := #[.val (.int p0), .val (.int p1), .val (.long w0), .second, .val (.long w1), .second, .val (.int p6), .val (.int p7), .val (.int (p1 &&& (3 : Int32))), .val (.int x9), .val (.int (2 : Int32)), .val (.ref a32), .val (.int A0), .val (.int A1), .val (.int B0), .val (.int B1), .val (.int Lu), .val (.int Lg), .val (.ref a35), .val (.ref a36), .val (.ref a37), .val (.ref a41), .val (.int (cnt2 x9 (eqI (strL Lg B0 B1) (strL Lu A0 A1)) w0 w1)), .val (.int (1 : Int32))]) rfl k) ?_
                    refine Fin.go (fun _ k => XS.goto X43.here hx rfl (pc0 := 300) (pc' := 390) rfl (hb hby at_300) (by decide) (by decide) k) ?_
                    show Fin _ p e below s _ _ _ T43 (mkF m 390 #[.val (.int p0), .val (.int p1), .val (.long w0), .second, .val (.long w1), .second, .val (.int p6), .val (.int p7), .val (.int (p1 &&& (3 : Int32))), .val (.int x9), .val (.int (2 : Int32)), .val (.ref a32), .val (.int A0), .val (.int A1), .val (.int B0), .val (.int B1), .val (.int Lu), .val (.int Lg), .val (.ref a35), .val (.ref a36), .val (.ref a37), .val (.ref a41), .val (.int (cnt2 x9 (eqI (strL Lg B0 B1) (strL Lu A0 A1)) w0 w1)), .val (.int (1 : Int32))] [])
                    refine Fin.go (fun _ k => XS.iload X43.here hx rfl (hb hby at_390) rfl k) ?_
                    refine Fin.go (fun _ k => XS.iload X43.here hx rfl (hb hby at_392) rfl k) ?_
                    refine Fin.go (fun _ k => XS.icmpNo X43.here hx rfl (hb hby at_394) rfl (XT.ii_ne_f (by rw [show cnt2 x9 (eqI (strL Lg B0 B1) (strL Lu A0 A1)) w0 w1 = eqI (strL Lg B0 B1) (strL Lu A0 A1) from if_pos c257, eq_fin hLu hLg rA0 rA1 rB0 rB1]; exact if_pos ⟨c264, Or.inl c270, Or.inr c290⟩)) k) ?_
                    show Fin _ p e below s _ _ _ T43 (mkF m 397 #[.val (.int p0), .val (.int p1), .val (.long w0), .second, .val (.long w1), .second, .val (.int p6), .val (.int p7), .val (.int (p1 &&& (3 : Int32))), .val (.int x9), .val (.int (2 : Int32)), .val (.ref a32), .val (.int A0), .val (.int A1), .val (.int B0), .val (.int B1), .val (.int Lu), .val (.int Lg), .val (.ref a35), .val (.ref a36), .val (.ref a37), .val (.ref a41), .val (.int (cnt2 x9 (eqI (strL Lg B0 B1) (strL Lu A0 A1)) w0 w1)), .val (.int (1 : Int32))] [])
                    refine Fin.go (fun _ k => XS.iconst X43.here hx rfl (hb hby at_397) k) ?_
                    refine Fin.go (fun _ k => XS.goto X43.here hx rfl (pc0 := 398) (pc' := 402) rfl (hb hby at_398) (by decide) (by decide) k) ?_
                    exact Fin.leaveH X43 hS40 hk42 hZ40 hEL e43 RR42 hlk (v := some (.int (nar .boolean (1 : Int32)))) (fun h => by rw [hret] at h; cases h) (by decide) (by decide) ⟨rfl, N43⟩ (fun fs hr => retN X43 hx (t := .boolean) hret (by simp) (hb hby at_402) hr)
                  · refine Fin.go (fun _ k => XS.icmpYes X43.here hx rfl (pc0 := 290) (pc' := 297) rfl (hb hby at_290) rfl (XT.ii_ne_t c290) (by decide) (by decide) k) ?_
                    show Fin _ p e below s _ _ _ T43 (mkF m 297 #[.val (.int p0), .val (.int p1), .val (.long w0), .second, .val (.long w1), .second, .val (.int p6), .val (.int p7), .val (.int (p1 &&& (3 : Int32))), .val (.int x9), .val (.int (2 : Int32)), .val (.ref a32), .val (.int A0), .val (.int A1), .val (.int B0), .val (.int B1), .val (.int Lu), .val (.int Lg), .val (.ref a35), .val (.ref a36), .val (.ref a37), .val (.ref a41), .val (.int (cnt2 x9 (eqI (strL Lg B0 B1) (strL Lu A0 A1)) w0 w1)), .unset] [])
                    refine Fin.go (fun _ k => XS.iconst X43.here hx rfl (hb hby at_297) k) ?_
                    refine Fin.go (fun _ k => XS.istore X43.here hx rfl (hb hby at_298) rfl (l' := #[.val (.int p0), .val (.int p1), .val (.long w0), .second, .val (.long w1), .second, .val (.int p6), .val (.int p7), .val (.int (p1 &&& (3 : Int32))), .val (.int x9), .val (.int (2 : Int32)), .val (.ref a32), .val (.int A0), .val (.int A1), .val (.int B0), .val (.int B1), .val (.int Lu), .val (.int Lg), .val (.ref a35), .val (.ref a36), .val (.ref a37), .val (.ref a41), .val (.int (cnt2 x9 (eqI (strL Lg B0 B1) (strL Lu A0 A1)) w0 w1)), .val (.int (0 : Int32))]) rfl k) ?_
                    refine Fin.go (fun _ k => XS.goto X43.here hx rfl (pc0 := 300) (pc' := 390) rfl (hb hby at_300) (by decide) (by decide) k) ?_
                    refine Fin.go (fun _ k => XS.iload X43.here hx rfl (hb hby at_390) rfl k) ?_
                    show Fin _ p e below s _ _ _ T43 (mkF m 392 #[.val (.int p0), .val (.int p1), .val (.long w0), .second, .val (.long w1), .second, .val (.int p6), .val (.int p7), .val (.int (p1 &&& (3 : Int32))), .val (.int x9), .val (.int (2 : Int32)), .val (.ref a32), .val (.int A0), .val (.int A1), .val (.int B0), .val (.int B1), .val (.int Lu), .val (.int Lg), .val (.ref a35), .val (.ref a36), .val (.ref a37), .val (.ref a41), .val (.int (cnt2 x9 (eqI (strL Lg B0 B1) (strL Lu A0 A1)) w0 w1)), .val (.int (0 : Int32))] [(.int (cnt2 x9 (eqI (strL Lg B0 B1) (strL Lu A0 A1)) w0 w1))])
                    refine Fin.go (fun _ k => XS.iload X43.here hx rfl (hb hby at_392) rfl k) ?_
                    refine Fin.go (fun _ k => XS.icmpNo X43.here hx rfl (hb hby at_394) rfl (XT.ii_ne_f (by rw [show cnt2 x9 (eqI (strL Lg B0 B1) (strL Lu A0 A1)) w0 w1 = eqI (strL Lg B0 B1) (strL Lu A0 A1) from if_pos c257, eq_fin hLu hLg rA0 rA1 rB0 rB1]; exact if_neg (fun h => h.2.2.elim c283 c290))) k) ?_
                    show Fin _ p e below s _ _ _ T43 (mkF m 397 #[.val (.int p0), .val (.int p1), .val (.long w0), .second, .val (.long w1), .second, .val (.int p6), .val (.int p7), .val (.int (p1 &&& (3 : Int32))), .val (.int x9), .val (.int (2 : Int32)), .val (.ref a32), .val (.int A0), .val (.int A1), .val (.int B0), .val (.int B1), .val (.int Lu), .val (.int Lg), .val (.ref a35), .val (.ref a36), .val (.ref a37), .val (.ref a41), .val (.int (cnt2 x9 (eqI (strL Lg B0 B1) (strL Lu A0 A1)) w0 w1)), .val (.int (0 : Int32))] [])
                    refine Fin.go (fun _ k => XS.iconst X43.here hx rfl (hb hby at_397) k) ?_
                    refine Fin.go (fun _ k => XS.goto X43.here hx rfl (pc0 := 398) (pc' := 402) rfl (hb hby at_398) (by decide) (by decide) k) ?_
                    exact Fin.leaveH X43 hS40 hk42 hZ40 hEL e43 RR42 hlk (v := some (.int (nar .boolean (1 : Int32)))) (fun h => by rw [hret] at h; cases h) (by decide) (by decide) ⟨rfl, N43⟩ (fun fs hr => retN X43 hx (t := .boolean) hret (by simp) (hb hby at_402) hr)
              · refine Fin.go (fun _ k => XS.icmpNo X43.here hx rfl (hb hby at_270) rfl (XT.ii_lt_f c270) k) ?_
                show Fin _ p e below s _ _ _ T43 (mkF m 273 #[.val (.int p0), .val (.int p1), .val (.long w0), .second, .val (.long w1), .second, .val (.int p6), .val (.int p7), .val (.int (p1 &&& (3 : Int32))), .val (.int x9), .val (.int (2 : Int32)), .val (.ref a32), .val (.int A0), .val (.int A1), .val (.int B0), .val (.int B1), .val (.int Lu), .val (.int Lg), .val (.ref a35), .val (.ref a36), .val (.ref a37), .val (.ref a41), .val (.int (cnt2 x9 (eqI (strL Lg B0 B1) (strL Lu A0 A1)) w0 w1)), .unset] [])
                refine Fin.go (fun _ k => XS.iload X43.here hx rfl (hb hby at_273) rfl k) ?_
                refine Fin.go (fun _ k => XS.iload X43.here hx rfl (hb hby at_275) rfl k) ?_
                by_cases c277 : A0 = B0
                · refine Fin.go (fun _ k => XS.icmpNo X43.here hx rfl (hb hby at_277) rfl (XT.ii_ne_f c277) k) ?_
                  show Fin _ p e below s _ _ _ T43 (mkF m 280 #[.val (.int p0), .val (.int p1), .val (.long w0), .second, .val (.long w1), .second, .val (.int p6), .val (.int p7), .val (.int (p1 &&& (3 : Int32))), .val (.int x9), .val (.int (2 : Int32)), .val (.ref a32), .val (.int A0), .val (.int A1), .val (.int B0), .val (.int B1), .val (.int Lu), .val (.int Lg), .val (.ref a35), .val (.ref a36), .val (.ref a37), .val (.ref a41), .val (.int (cnt2 x9 (eqI (strL Lg B0 B1) (strL Lu A0 A1)) w0 w1)), .unset] [])
                  refine Fin.go (fun _ k => XS.iload X43.here hx rfl (hb hby at_280) rfl k) ?_
                  refine Fin.go (fun _ k => XS.iconst X43.here hx rfl (hb hby at_282) k) ?_
                  by_cases c283 : Lu < (2 : Int32)
                  · refine Fin.go (fun _ k => XS.icmpYes X43.here hx rfl (pc0 := 283) (pc' := 293) rfl (hb hby at_283) rfl (XT.ii_lt_t c283) (by decide) (by decide) k) ?_
                    show Fin _ p e below s _ _ _ T43 (mkF m 293 #[.val (.int p0), .val (.int p1), .val (.long w0), .second, .val (.long w1), .second, .val (.int p6), .val (.int p7), .val (.int (p1 &&& (3 : Int32))), .val (.int x9), .val (.int (2 : Int32)), .val (.ref a32), .val (.int A0), .val (.int A1), .val (.int B0), .val (.int B1), .val (.int Lu), .val (.int Lg), .val (.ref a35), .val (.ref a36), .val (.ref a37), .val (.ref a41), .val (.int (cnt2 x9 (eqI (strL Lg B0 B1) (strL Lu A0 A1)) w0 w1)), .unset] [])
                    refine Fin.go (fun _ k => XS.iconst X43.here hx rfl (hb hby at_293) k) ?_
                    refine Fin.go (fun _ k => XS.goto X43.here hx rfl (pc0 := 294) (pc' := 298) rfl (hb hby at_294) (by decide) (by decide) k) ?_
                    refine Fin.go (fun _ k => XS.istore X43.here hx rfl (hb hby at_298) rfl (l' := #[.val (.int p0), .val (.int p1), .val (.long w0), .second, .val (.long w1), .second, .val (.int p6), .val (.int p7), .val (.int (p1 &&& (3 : Int32))), .val (.int x9), .val (.int (2 : Int32)), .val (.ref a32), .val (.int A0), .val (.int A1), .val (.int B0), .val (.int B1), .val (.int Lu), .val (.int Lg), .val (.ref a35), .val (.ref a36), .val (.ref a37), .val (.ref a41), .val (.int (cnt2 x9 (eqI (strL Lg B0 B1) (strL Lu A0 A1)) w0 w1)), .val (.int (1 : Int32))]) rfl k) ?_
                    refine Fin.go (fun _ k => XS.goto X43.here hx rfl (pc0 := 300) (pc' := 390) rfl (hb hby at_300) (by decide) (by decide) k) ?_
                    show Fin _ p e below s _ _ _ T43 (mkF m 390 #[.val (.int p0), .val (.int p1), .val (.long w0), .second, .val (.long w1), .second, .val (.int p6), .val (.int p7), .val (.int (p1 &&& (3 : Int32))), .val (.int x9), .val (.int (2 : Int32)), .val (.ref a32), .val (.int A0), .val (.int A1), .val (.int B0), .val (.int B1), .val (.int Lu), .val (.int Lg), .val (.ref a35), .val (.ref a36), .val (.ref a37), .val (.ref a41), .val (.int (cnt2 x9 (eqI (strL Lg B0 B1) (strL Lu A0 A1)) w0 w1)), .val (.int (1 : Int32))] [])
                    refine Fin.go (fun _ k => XS.iload X43.here hx rfl (hb hby at_390) rfl k) ?_
                    refine Fin.go (fun _ k => XS.iload X43.here hx rfl (hb hby at_392) rfl k) ?_
                    refine Fin.go (fun _ k => XS.icmpNo X43.here hx rfl (hb hby at_394) rfl (XT.ii_ne_f (by rw [show cnt2 x9 (eqI (strL Lg B0 B1) (strL Lu A0 A1)) w0 w1 = eqI (strL Lg B0 B1) (strL Lu A0 A1) from if_pos c257, eq_fin hLu hLg rA0 rA1 rB0 rB1]; exact if_pos ⟨c264, Or.inr c277, Or.inl c283⟩)) k) ?_
                    show Fin _ p e below s _ _ _ T43 (mkF m 397 #[.val (.int p0), .val (.int p1), .val (.long w0), .second, .val (.long w1), .second, .val (.int p6), .val (.int p7), .val (.int (p1 &&& (3 : Int32))), .val (.int x9), .val (.int (2 : Int32)), .val (.ref a32), .val (.int A0), .val (.int A1), .val (.int B0), .val (.int B1), .val (.int Lu), .val (.int Lg), .val (.ref a35), .val (.ref a36), .val (.ref a37), .val (.ref a41), .val (.int (cnt2 x9 (eqI (strL Lg B0 B1) (strL Lu A0 A1)) w0 w1)), .val (.int (1 : Int32))] [])
                    refine Fin.go (fun _ k => XS.iconst X43.here hx rfl (hb hby at_397) k) ?_
                    refine Fin.go (fun _ k => XS.goto X43.here hx rfl (pc0 := 398) (pc' := 402) rfl (hb hby at_398) (by decide) (by decide) k) ?_
                    exact Fin.leaveH X43 hS40 hk42 hZ40 hEL e43 RR42 hlk (v := some (.int (nar .boolean (1 : Int32)))) (fun h => by rw [hret] at h; cases h) (by decide) (by decide) ⟨rfl, N43⟩ (fun fs hr => retN X43 hx (t := .boolean) hret (by simp) (hb hby at_402) hr)
                  · refine Fin.go (fun _ k => XS.icmpNo X43.here hx rfl (hb hby at_283) rfl (XT.ii_lt_f c283) k) ?_
                    show Fin _ p e below s _ _ _ T43 (mkF m 286 #[.val (.int p0), .val (.int p1), .val (.long w0), .second, .val (.long w1), .second, .val (.int p6), .val (.int p7), .val (.int (p1 &&& (3 : Int32))), .val (.int x9), .val (.int (2 : Int32)), .val (.ref a32), .val (.int A0), .val (.int A1), .val (.int B0), .val (.int B1), .val (.int Lu), .val (.int Lg), .val (.ref a35), .val (.ref a36), .val (.ref a37), .val (.ref a41), .val (.int (cnt2 x9 (eqI (strL Lg B0 B1) (strL Lu A0 A1)) w0 w1)), .unset] [])
                    refine Fin.go (fun _ k => XS.iload X43.here hx rfl (hb hby at_286) rfl k) ?_
                    refine Fin.go (fun _ k => XS.iload X43.here hx rfl (hb hby at_288) rfl k) ?_
                    by_cases c290 : A1 = B1
                    · refine Fin.go (fun _ k => XS.icmpNo X43.here hx rfl (hb hby at_290) rfl (XT.ii_ne_f c290) k) ?_
                      show Fin _ p e below s _ _ _ T43 (mkF m 293 #[.val (.int p0), .val (.int p1), .val (.long w0), .second, .val (.long w1), .second, .val (.int p6), .val (.int p7), .val (.int (p1 &&& (3 : Int32))), .val (.int x9), .val (.int (2 : Int32)), .val (.ref a32), .val (.int A0), .val (.int A1), .val (.int B0), .val (.int B1), .val (.int Lu), .val (.int Lg), .val (.ref a35), .val (.ref a36), .val (.ref a37), .val (.ref a41), .val (.int (cnt2 x9 (eqI (strL Lg B0 B1) (strL Lu A0 A1)) w0 w1)), .unset] [])
                      refine Fin.go (fun _ k => XS.iconst X43.here hx rfl (hb hby at_293) k) ?_
                      refine Fin.go (fun _ k => XS.goto X43.here hx rfl (pc0 := 294) (pc' := 298) rfl (hb hby at_294) (by decide) (by decide) k) ?_
                      refine Fin.go (fun _ k => XS.istore X43.here hx rfl (hb hby at_298) rfl (l' := #[.val (.int p0), .val (.int p1), .val (.long w0), .second, .val (.long w1), .second, .val (.int p6), .val (.int p7), .val (.int (p1 &&& (3 : Int32))), .val (.int x9), .val (.int (2 : Int32)), .val (.ref a32), .val (.int A0), .val (.int A1), .val (.int B0), .val (.int B1), .val (.int Lu), .val (.int Lg), .val (.ref a35), .val (.ref a36), .val (.ref a37), .val (.ref a41), .val (.int (cnt2 x9 (eqI (strL Lg B0 B1) (strL Lu A0 A1)) w0 w1)), .val (.int (1 : Int32))]) rfl k) ?_
                      refine Fin.go (fun _ k => XS.goto X43.here hx rfl (pc0 := 300) (pc' := 390) rfl (hb hby at_300) (by decide) (by decide) k) ?_
                      show Fin _ p e below s _ _ _ T43 (mkF m 390 #[.val (.int p0), .val (.int p1), .val (.long w0), .second, .val (.long w1), .second, .val (.int p6), .val (.int p7), .val (.int (p1 &&& (3 : Int32))), .val (.int x9), .val (.int (2 : Int32)), .val (.ref a32), .val (.int A0), .val (.int A1), .val (.int B0), .val (.int B1), .val (.int Lu), .val (.int Lg), .val (.ref a35), .val (.ref a36), .val (.ref a37), .val (.ref a41), .val (.int (cnt2 x9 (eqI (strL Lg B0 B1) (strL Lu A0 A1)) w0 w1)), .val (.int (1 : Int32))] [])
                      refine Fin.go (fun _ k => XS.iload X43.here hx rfl (hb hby at_390) rfl k) ?_
                      refine Fin.go (fun _ k => XS.iload X43.here hx rfl (hb hby at_392) rfl k) ?_
                      refine Fin.go (fun _ k => XS.icmpNo X43.here hx rfl (hb hby at_394) rfl (XT.ii_ne_f (by rw [show cnt2 x9 (eqI (strL Lg B0 B1) (strL Lu A0 A1)) w0 w1 = eqI (strL Lg B0 B1) (strL Lu A0 A1) from if_pos c257, eq_fin hLu hLg rA0 rA1 rB0 rB1]; exact if_pos ⟨c264, Or.inr c277, Or.inr c290⟩)) k) ?_
                      show Fin _ p e below s _ _ _ T43 (mkF m 397 #[.val (.int p0), .val (.int p1), .val (.long w0), .second, .val (.long w1), .second, .val (.int p6), .val (.int p7), .val (.int (p1 &&& (3 : Int32))), .val (.int x9), .val (.int (2 : Int32)), .val (.ref a32), .val (.int A0), .val (.int A1), .val (.int B0), .val (.int B1), .val (.int Lu), .val (.int Lg), .val (.ref a35), .val (.ref a36), .val (.ref a37), .val (.ref a41), .val (.int (cnt2 x9 (eqI (strL Lg B0 B1) (strL Lu A0 A1)) w0 w1)), .val (.int (1 : Int32))] [])
                      refine Fin.go (fun _ k => XS.iconst X43.here hx rfl (hb hby at_397) k) ?_
                      refine Fin.go (fun _ k => XS.goto X43.here hx rfl (pc0 := 398) (pc' := 402) rfl (hb hby at_398) (by decide) (by decide) k) ?_
                      exact Fin.leaveH X43 hS40 hk42 hZ40 hEL e43 RR42 hlk (v := some (.int (nar .boolean (1 : Int32)))) (fun h => by rw [hret] at h; cases h) (by decide) (by decide) ⟨rfl, N43⟩ (fun fs hr => retN X43 hx (t := .boolean) hret (by simp) (hb hby at_402) hr)
                    · refine Fin.go (fun _ k => XS.icmpYes X43.here hx rfl (pc0 := 290) (pc' := 297) rfl (hb hby at_290) rfl (XT.ii_ne_t c290) (by decide) (by decide) k) ?_
                      show Fin _ p e below s _ _ _ T43 (mkF m 297 #[.val (.int p0), .val (.int p1), .val (.long w0), .second, .val (.long w1), .second, .val (.int p6), .val (.int p7), .val (.int (p1 &&& (3 : Int32))), .val (.int x9), .val (.int (2 : Int32)), .val (.ref a32), .val (.int A0), .val (.int A1), .val (.int B0), .val (.int B1), .val (.int Lu), .val (.int Lg), .val (.ref a35), .val (.ref a36), .val (.ref a37), .val (.ref a41), .val (.int (cnt2 x9 (eqI (strL Lg B0 B1) (strL Lu A0 A1)) w0 w1)), .unset] [])
                      refine Fin.go (fun _ k => XS.iconst X43.here hx rfl (hb hby at_297) k) ?_
                      refine Fin.go (fun _ k => XS.istore X43.here hx rfl (hb hby at_298) rfl (l' := #[.val (.int p0), .val (.int p1), .val (.long w0), .second, .val (.long w1), .second, .val (.int p6), .val (.int p7), .val (.int (p1 &&& (3 : Int32))), .val (.int x9), .val (.int (2 : Int32)), .val (.ref a32), .val (.int A0), .val (.int A1), .val (.int B0), .val (.int B1), .val (.int Lu), .val (.int Lg), .val (.ref a35), .val (.ref a36), .val (.ref a37), .val (.ref a41), .val (.int (cnt2 x9 (eqI (strL Lg B0 B1) (strL Lu A0 A1)) w0 w1)), .val (.int (0 : Int32))]) rfl k) ?_
                      refine Fin.go (fun _ k => XS.goto X43.here hx rfl (pc0 := 300) (pc' := 390) rfl (hb hby at_300) (by decide) (by decide) k) ?_
                      refine Fin.go (fun _ k => XS.iload X43.here hx rfl (hb hby at_390) rfl k) ?_
                      show Fin _ p e below s _ _ _ T43 (mkF m 392 #[.val (.int p0), .val (.int p1), .val (.long w0), .second, .val (.long w1), .second, .val (.int p6), .val (.int p7), .val (.int (p1 &&& (3 : Int32))), .val (.int x9), .val (.int (2 : Int32)), .val (.ref a32), .val (.int A0), .val (.int A1), .val (.int B0), .val (.int B1), .val (.int Lu), .val (.int Lg), .val (.ref a35), .val (.ref a36), .val (.ref a37), .val (.ref a41), .val (.int (cnt2 x9 (eqI (strL Lg B0 B1) (strL Lu A0 A1)) w0 w1)), .val (.int (0 : Int32))] [(.int (cnt2 x9 (eqI (strL Lg B0 B1) (strL Lu A0 A1)) w0 w1))])
                      refine Fin.go (fun _ k => XS.iload X43.here hx rfl (hb hby at_392) rfl k) ?_
                      refine Fin.go (fun _ k => XS.icmpNo X43.here hx rfl (hb hby at_394) rfl (XT.ii_ne_f (by rw [show cnt2 x9 (eqI (strL Lg B0 B1) (strL Lu A0 A1)) w0 w1 = eqI (strL Lg B0 B1) (strL Lu A0 A1) from if_pos c257, eq_fin hLu hLg rA0 rA1 rB0 rB1]; exact if_neg (fun h => h.2.2.elim c283 c290))) k) ?_
                      show Fin _ p e below s _ _ _ T43 (mkF m 397 #[.val (.int p0), .val (.int p1), .val (.long w0), .second, .val (.long w1), .second, .val (.int p6), .val (.int p7), .val (.int (p1 &&& (3 : Int32))), .val (.int x9), .val (.int (2 : Int32)), .val (.ref a32), .val (.int A0), .val (.int A1), .val (.int B0), .val (.int B1), .val (.int Lu), .val (.int Lg), .val (.ref a35), .val (.ref a36), .val (.ref a37), .val (.ref a41), .val (.int (cnt2 x9 (eqI (strL Lg B0 B1) (strL Lu A0 A1)) w0 w1)), .val (.int (0 : Int32))] [])
                      refine Fin.go (fun _ k => XS.iconst X43.here hx rfl (hb hby at_397) k) ?_
                      refine Fin.go (fun _ k => XS.goto X43.here hx rfl (pc0 := 398) (pc' := 402) rfl (hb hby at_398) (by decide) (by decide) k) ?_
                      exact Fin.leaveH X43 hS40 hk42 hZ40 hEL e43 RR42 hlk (v := some (.int (nar .boolean (1 : Int32)))) (fun h => by rw [hret] at h; cases h) (by decide) (by decide) ⟨rfl, N43⟩ (fun fs hr => retN X43 hx (t := .boolean) hret (by simp) (hb hby at_402) hr)
                · refine Fin.go (fun _ k => XS.icmpYes X43.here hx rfl (pc0 := 277) (pc' := 297) rfl (hb hby at_277) rfl (XT.ii_ne_t c277) (by decide) (by decide) k) ?_
                  show Fin _ p e below s _ _ _ T43 (mkF m 297 #[.val (.int p0), .val (.int p1), .val (.long w0), .second, .val (.long w1), .second, .val (.int p6), .val (.int p7), .val (.int (p1 &&& (3 : Int32))), .val (.int x9), .val (.int (2 : Int32)), .val (.ref a32), .val (.int A0), .val (.int A1), .val (.int B0), .val (.int B1), .val (.int Lu), .val (.int Lg), .val (.ref a35), .val (.ref a36), .val (.ref a37), .val (.ref a41), .val (.int (cnt2 x9 (eqI (strL Lg B0 B1) (strL Lu A0 A1)) w0 w1)), .unset] [])
                  refine Fin.go (fun _ k => XS.iconst X43.here hx rfl (hb hby at_297) k) ?_
                  refine Fin.go (fun _ k => XS.istore X43.here hx rfl (hb hby at_298) rfl (l' := #[.val (.int p0), .val (.int p1), .val (.long w0), .second, .val (.long w1), .second, .val (.int p6), .val (.int p7), .val (.int (p1 &&& (3 : Int32))), .val (.int x9), .val (.int (2 : Int32)), .val (.ref a32), .val (.int A0), .val (.int A1), .val (.int B0), .val (.int B1), .val (.int Lu), .val (.int Lg), .val (.ref a35), .val (.ref a36), .val (.ref a37), .val (.ref a41), .val (.int (cnt2 x9 (eqI (strL Lg B0 B1) (strL Lu A0 A1)) w0 w1)), .val (.int (0 : Int32))]) rfl k) ?_
                  refine Fin.go (fun _ k => XS.goto X43.here hx rfl (pc0 := 300) (pc' := 390) rfl (hb hby at_300) (by decide) (by decide) k) ?_
                  refine Fin.go (fun _ k => XS.iload X43.here hx rfl (hb hby at_390) rfl k) ?_
                  show Fin _ p e below s _ _ _ T43 (mkF m 392 #[.val (.int p0), .val (.int p1), .val (.long w0), .second, .val (.long w1), .second, .val (.int p6), .val (.int p7), .val (.int (p1 &&& (3 : Int32))), .val (.int x9), .val (.int (2 : Int32)), .val (.ref a32), .val (.int A0), .val (.int A1), .val (.int B0), .val (.int B1), .val (.int Lu), .val (.int Lg), .val (.ref a35), .val (.ref a36), .val (.ref a37), .val (.ref a41), .val (.int (cnt2 x9 (eqI (strL Lg B0 B1) (strL Lu A0 A1)) w0 w1)), .val (.int (0 : Int32))] [(.int (cnt2 x9 (eqI (strL Lg B0 B1) (strL Lu A0 A1)) w0 w1))])
                  refine Fin.go (fun _ k => XS.iload X43.here hx rfl (hb hby at_392) rfl k) ?_
                  refine Fin.go (fun _ k => XS.icmpNo X43.here hx rfl (hb hby at_394) rfl (XT.ii_ne_f (by rw [show cnt2 x9 (eqI (strL Lg B0 B1) (strL Lu A0 A1)) w0 w1 = eqI (strL Lg B0 B1) (strL Lu A0 A1) from if_pos c257, eq_fin hLu hLg rA0 rA1 rB0 rB1]; exact if_neg (fun h => h.2.1.elim c270 c277))) k) ?_
                  show Fin _ p e below s _ _ _ T43 (mkF m 397 #[.val (.int p0), .val (.int p1), .val (.long w0), .second, .val (.long w1), .second, .val (.int p6), .val (.int p7), .val (.int (p1 &&& (3 : Int32))), .val (.int x9), .val (.int (2 : Int32)), .val (.ref a32), .val (.int A0), .val (.int A1), .val (.int B0), .val (.int B1), .val (.int Lu), .val (.int Lg), .val (.ref a35), .val (.ref a36), .val (.ref a37), .val (.ref a41), .val (.int (cnt2 x9 (eqI (strL Lg B0 B1) (strL Lu A0 A1)) w0 w1)), .val (.int (0 : Int32))] [])
                  refine Fin.go (fun _ k => XS.iconst X43.here hx rfl (hb hby at_397) k) ?_
                  refine Fin.go (fun _ k => XS.goto X43.here hx rfl (pc0 := 398) (pc' := 402) rfl (hb hby at_398) (by decide) (by decide) k) ?_
                  exact Fin.leaveH X43 hS40 hk42 hZ40 hEL e43 RR42 hlk (v := some (.int (nar .boolean (1 : Int32)))) (fun h => by rw [hret] at h; cases h) (by decide) (by decide) ⟨rfl, N43⟩ (fun fs hr => retN X43 hx (t := .boolean) hret (by simp) (hb hby at_402) hr)
            · refine Fin.go (fun _ k => XS.icmpYes X43.here hx rfl (pc0 := 264) (pc' := 297) rfl (hb hby at_264) rfl (XT.ii_ne_t c264) (by decide) (by decide) k) ?_
              show Fin _ p e below s _ _ _ T43 (mkF m 297 #[.val (.int p0), .val (.int p1), .val (.long w0), .second, .val (.long w1), .second, .val (.int p6), .val (.int p7), .val (.int (p1 &&& (3 : Int32))), .val (.int x9), .val (.int (2 : Int32)), .val (.ref a32), .val (.int A0), .val (.int A1), .val (.int B0), .val (.int B1), .val (.int Lu), .val (.int Lg), .val (.ref a35), .val (.ref a36), .val (.ref a37), .val (.ref a41), .val (.int (cnt2 x9 (eqI (strL Lg B0 B1) (strL Lu A0 A1)) w0 w1)), .unset] [])
              refine Fin.go (fun _ k => XS.iconst X43.here hx rfl (hb hby at_297) k) ?_
              refine Fin.go (fun _ k => XS.istore X43.here hx rfl (hb hby at_298) rfl (l' := #[.val (.int p0), .val (.int p1), .val (.long w0), .second, .val (.long w1), .second, .val (.int p6), .val (.int p7), .val (.int (p1 &&& (3 : Int32))), .val (.int x9), .val (.int (2 : Int32)), .val (.ref a32), .val (.int A0), .val (.int A1), .val (.int B0), .val (.int B1), .val (.int Lu), .val (.int Lg), .val (.ref a35), .val (.ref a36), .val (.ref a37), .val (.ref a41), .val (.int (cnt2 x9 (eqI (strL Lg B0 B1) (strL Lu A0 A1)) w0 w1)), .val (.int (0 : Int32))]) rfl k) ?_
              refine Fin.go (fun _ k => XS.goto X43.here hx rfl (pc0 := 300) (pc' := 390) rfl (hb hby at_300) (by decide) (by decide) k) ?_
              refine Fin.go (fun _ k => XS.iload X43.here hx rfl (hb hby at_390) rfl k) ?_
              show Fin _ p e below s _ _ _ T43 (mkF m 392 #[.val (.int p0), .val (.int p1), .val (.long w0), .second, .val (.long w1), .second, .val (.int p6), .val (.int p7), .val (.int (p1 &&& (3 : Int32))), .val (.int x9), .val (.int (2 : Int32)), .val (.ref a32), .val (.int A0), .val (.int A1), .val (.int B0), .val (.int B1), .val (.int Lu), .val (.int Lg), .val (.ref a35), .val (.ref a36), .val (.ref a37), .val (.ref a41), .val (.int (cnt2 x9 (eqI (strL Lg B0 B1) (strL Lu A0 A1)) w0 w1)), .val (.int (0 : Int32))] [(.int (cnt2 x9 (eqI (strL Lg B0 B1) (strL Lu A0 A1)) w0 w1))])
              refine Fin.go (fun _ k => XS.iload X43.here hx rfl (hb hby at_392) rfl k) ?_
              refine Fin.go (fun _ k => XS.icmpNo X43.here hx rfl (hb hby at_394) rfl (XT.ii_ne_f (by rw [show cnt2 x9 (eqI (strL Lg B0 B1) (strL Lu A0 A1)) w0 w1 = eqI (strL Lg B0 B1) (strL Lu A0 A1) from if_pos c257, eq_fin hLu hLg rA0 rA1 rB0 rB1]; exact if_neg (fun h => c264 h.1))) k) ?_
              show Fin _ p e below s _ _ _ T43 (mkF m 397 #[.val (.int p0), .val (.int p1), .val (.long w0), .second, .val (.long w1), .second, .val (.int p6), .val (.int p7), .val (.int (p1 &&& (3 : Int32))), .val (.int x9), .val (.int (2 : Int32)), .val (.ref a32), .val (.int A0), .val (.int A1), .val (.int B0), .val (.int B1), .val (.int Lu), .val (.int Lg), .val (.ref a35), .val (.ref a36), .val (.ref a37), .val (.ref a41), .val (.int (cnt2 x9 (eqI (strL Lg B0 B1) (strL Lu A0 A1)) w0 w1)), .val (.int (0 : Int32))] [])
              refine Fin.go (fun _ k => XS.iconst X43.here hx rfl (hb hby at_397) k) ?_
              refine Fin.go (fun _ k => XS.goto X43.here hx rfl (pc0 := 398) (pc' := 402) rfl (hb hby at_398) (by decide) (by decide) k) ?_
              exact Fin.leaveH X43 hS40 hk42 hZ40 hEL e43 RR42 hlk (v := some (.int (nar .boolean (1 : Int32)))) (fun h => by rw [hret] at h; cases h) (by decide) (by decide) ⟨rfl, N43⟩ (fun fs hr => retN X43 hx (t := .boolean) hret (by simp) (hb hby at_402) hr)
          · refine Fin.go (fun _ k => XS.icmpYes X43.here hx rfl (pc0 := 257) (pc' := 303) rfl (hb hby at_257) rfl (XT.ii_ne_t c257) (by decide) (by decide) k) ?_
            show Fin _ p e below s _ _ _ T43 (mkF m 303 #[.val (.int p0), .val (.int p1), .val (.long w0), .second, .val (.long w1), .second, .val (.int p6), .val (.int p7), .val (.int (p1 &&& (3 : Int32))), .val (.int x9), .val (.int (2 : Int32)), .val (.ref a32), .val (.int A0), .val (.int A1), .val (.int B0), .val (.int B1), .val (.int Lu), .val (.int Lg), .val (.ref a35), .val (.ref a36), .val (.ref a37), .val (.ref a41), .val (.int (cnt2 x9 (eqI (strL Lg B0 B1) (strL Lu A0 A1)) w0 w1)), .unset] [])
            refine Fin.go (fun _ k => XS.iload X43.here hx rfl (hb hby at_303) rfl k) ?_
            by_cases c305 : x9 < 0
            · refine Fin.go (fun _ k => XS.ifNo X43.here hx rfl (hb hby at_305) rfl (XT.i0_ge_f c305) k) ?_
              show Fin _ p e below s _ _ _ T43 (mkF m 308 #[.val (.int p0), .val (.int p1), .val (.long w0), .second, .val (.long w1), .second, .val (.int p6), .val (.int p7), .val (.int (p1 &&& (3 : Int32))), .val (.int x9), .val (.int (2 : Int32)), .val (.ref a32), .val (.int A0), .val (.int A1), .val (.int B0), .val (.int B1), .val (.int Lu), .val (.int Lg), .val (.ref a35), .val (.ref a36), .val (.ref a37), .val (.ref a41), .val (.int (cnt2 x9 (eqI (strL Lg B0 B1) (strL Lu A0 A1)) w0 w1)), .unset] [])
              refine Fin.go (fun _ k => XS.iconst X43.here hx rfl (hb hby at_308) k) ?_
              refine Fin.go (fun _ k => XS.istore X43.here hx rfl (hb hby at_309) rfl (l' := #[.val (.int p0), .val (.int p1), .val (.long w0), .second, .val (.long w1), .second, .val (.int p6), .val (.int p7), .val (.int (p1 &&& (3 : Int32))), .val (.int x9), .val (.int (2 : Int32)), .val (.ref a32), .val (.int A0), .val (.int A1), .val (.int B0), .val (.int B1), .val (.int Lu), .val (.int Lg), .val (.ref a35), .val (.ref a36), .val (.ref a37), .val (.ref a41), .val (.int (cnt2 x9 (eqI (strL Lg B0 B1) (strL Lu A0 A1)) w0 w1)), .val (.int (0 : Int32))]) rfl k) ?_
              refine Fin.go (fun _ k => XS.goto X43.here hx rfl (pc0 := 311) (pc' := 390) rfl (hb hby at_311) (by decide) (by decide) k) ?_
              refine Fin.go (fun _ k => XS.iload X43.here hx rfl (hb hby at_390) rfl k) ?_
              show Fin _ p e below s _ _ _ T43 (mkF m 392 #[.val (.int p0), .val (.int p1), .val (.long w0), .second, .val (.long w1), .second, .val (.int p6), .val (.int p7), .val (.int (p1 &&& (3 : Int32))), .val (.int x9), .val (.int (2 : Int32)), .val (.ref a32), .val (.int A0), .val (.int A1), .val (.int B0), .val (.int B1), .val (.int Lu), .val (.int Lg), .val (.ref a35), .val (.ref a36), .val (.ref a37), .val (.ref a41), .val (.int (cnt2 x9 (eqI (strL Lg B0 B1) (strL Lu A0 A1)) w0 w1)), .val (.int (0 : Int32))] [(.int (cnt2 x9 (eqI (strL Lg B0 B1) (strL Lu A0 A1)) w0 w1))])
              refine Fin.go (fun _ k => XS.iload X43.here hx rfl (hb hby at_392) rfl k) ?_
              refine Fin.go (fun _ k => XS.icmpNo X43.here hx rfl (hb hby at_394) rfl (XT.ii_ne_f (cnt2_0 c257 (Or.inl c305))) k) ?_
              show Fin _ p e below s _ _ _ T43 (mkF m 397 #[.val (.int p0), .val (.int p1), .val (.long w0), .second, .val (.long w1), .second, .val (.int p6), .val (.int p7), .val (.int (p1 &&& (3 : Int32))), .val (.int x9), .val (.int (2 : Int32)), .val (.ref a32), .val (.int A0), .val (.int A1), .val (.int B0), .val (.int B1), .val (.int Lu), .val (.int Lg), .val (.ref a35), .val (.ref a36), .val (.ref a37), .val (.ref a41), .val (.int (cnt2 x9 (eqI (strL Lg B0 B1) (strL Lu A0 A1)) w0 w1)), .val (.int (0 : Int32))] [])
              refine Fin.go (fun _ k => XS.iconst X43.here hx rfl (hb hby at_397) k) ?_
              refine Fin.go (fun _ k => XS.goto X43.here hx rfl (pc0 := 398) (pc' := 402) rfl (hb hby at_398) (by decide) (by decide) k) ?_
              exact Fin.leaveH X43 hS40 hk42 hZ40 hEL e43 RR42 hlk (v := some (.int (nar .boolean (1 : Int32)))) (fun h => by rw [hret] at h; cases h) (by decide) (by decide) ⟨rfl, N43⟩ (fun fs hr => retN X43 hx (t := .boolean) hret (by simp) (hb hby at_402) hr)
            · refine Fin.go (fun _ k => XS.ifYes X43.here hx rfl (pc0 := 305) (pc' := 314) rfl (hb hby at_305) rfl (XT.i0_ge_t c305) (by decide) (by decide) k) ?_
              show Fin _ p e below s _ _ _ T43 (mkF m 314 #[.val (.int p0), .val (.int p1), .val (.long w0), .second, .val (.long w1), .second, .val (.int p6), .val (.int p7), .val (.int (p1 &&& (3 : Int32))), .val (.int x9), .val (.int (2 : Int32)), .val (.ref a32), .val (.int A0), .val (.int A1), .val (.int B0), .val (.int B1), .val (.int Lu), .val (.int Lg), .val (.ref a35), .val (.ref a36), .val (.ref a37), .val (.ref a41), .val (.int (cnt2 x9 (eqI (strL Lg B0 B1) (strL Lu A0 A1)) w0 w1)), .unset] [])
              refine Fin.go (fun _ k => XS.iload X43.here hx rfl (hb hby at_314) rfl k) ?_
              refine Fin.go (fun _ k => XS.bipush X43.here hx rfl (hb hby at_316) k) ?_
              by_cases c318 : x9 < (64 : Int32)
              · refine Fin.go (fun _ k => XS.icmpNo X43.here hx rfl (hb hby at_318) rfl (XT.ii_ge_f c318) k) ?_
                show Fin _ p e below s _ _ _ T43 (mkF m 321 #[.val (.int p0), .val (.int p1), .val (.long w0), .second, .val (.long w1), .second, .val (.int p6), .val (.int p7), .val (.int (p1 &&& (3 : Int32))), .val (.int x9), .val (.int (2 : Int32)), .val (.ref a32), .val (.int A0), .val (.int A1), .val (.int B0), .val (.int B1), .val (.int Lu), .val (.int Lg), .val (.ref a35), .val (.ref a36), .val (.ref a37), .val (.ref a41), .val (.int (cnt2 x9 (eqI (strL Lg B0 B1) (strL Lu A0 A1)) w0 w1)), .unset] [])
                refine Fin.go (fun _ k => XS.iload X43.here hx rfl (hb hby at_321) rfl k) ?_
                refine Fin.go (fun _ k => XS.iconst X43.here hx rfl (hb hby at_323) k) ?_
                refine Fin.go (fun _ k => XS.icmpNo X43.here hx rfl (hb hby at_324) rfl (XT.ii_lt_f (by decide)) k) ?_
                show Fin _ p e below s _ _ _ T43 (mkF m 327 #[.val (.int p0), .val (.int p1), .val (.long w0), .second, .val (.long w1), .second, .val (.int p6), .val (.int p7), .val (.int (p1 &&& (3 : Int32))), .val (.int x9), .val (.int (2 : Int32)), .val (.ref a32), .val (.int A0), .val (.int A1), .val (.int B0), .val (.int B1), .val (.int Lu), .val (.int Lg), .val (.ref a35), .val (.ref a36), .val (.ref a37), .val (.ref a41), .val (.int (cnt2 x9 (eqI (strL Lg B0 B1) (strL Lu A0 A1)) w0 w1)), .unset] [])
                refine Fin.go (fun _ k => XT.lloadN X43.here hx rfl (hb hby at_327) rfl k) ?_
                refine Fin.go (fun _ k => XS.iload X43.here hx rfl (hb hby at_328) rfl k) ?_
                refine Fin.go (fun _ k => XT.lushr X43.here hx rfl (hb hby at_330) rfl k) ?_
                refine Fin.go (fun _ k => XT.lconst X43.here hx rfl (hb hby at_331) k) ?_
                show Fin _ p e below s _ _ _ T43 (mkF m 332 #[.val (.int p0), .val (.int p1), .val (.long w0), .second, .val (.long w1), .second, .val (.int p6), .val (.int p7), .val (.int (p1 &&& (3 : Int32))), .val (.int x9), .val (.int (2 : Int32)), .val (.ref a32), .val (.int A0), .val (.int A1), .val (.int B0), .val (.int B1), .val (.int Lu), .val (.int Lg), .val (.ref a35), .val (.ref a36), .val (.ref a37), .val (.ref a41), .val (.int (cnt2 x9 (eqI (strL Lg B0 B1) (strL Lu A0 A1)) w0 w1)), .unset] [(.long (1 : Int64)), (.long (XT.ushrL w0 x9))])
                refine Fin.go (fun _ k => XT.land X43.here hx rfl (hb hby at_332) rfl k) ?_
                refine Fin.go (fun _ k => XT.lconst X43.here hx rfl (hb hby at_333) k) ?_
                refine Fin.go (fun _ k => XT.lcmp X43.here hx rfl (hb hby at_334) rfl k) ?_
                by_cases c335 : (XT.cmpL ((XT.ushrL w0 x9) &&& (1 : Int64)) (0 : Int64)) = 0
                · refine Fin.go (fun _ k => XS.ifYes X43.here hx rfl (pc0 := 335) (pc' := 342) rfl (hb hby at_335) rfl (XT.i0_eq_t c335) (by decide) (by decide) k) ?_
                  show Fin _ p e below s _ _ _ T43 (mkF m 342 #[.val (.int p0), .val (.int p1), .val (.long w0), .second, .val (.long w1), .second, .val (.int p6), .val (.int p7), .val (.int (p1 &&& (3 : Int32))), .val (.int x9), .val (.int (2 : Int32)), .val (.ref a32), .val (.int A0), .val (.int A1), .val (.int B0), .val (.int B1), .val (.int Lu), .val (.int Lg), .val (.ref a35), .val (.ref a36), .val (.ref a37), .val (.ref a41), .val (.int (cnt2 x9 (eqI (strL Lg B0 B1) (strL Lu A0 A1)) w0 w1)), .unset] [])
                  refine Fin.go (fun _ k => XS.iconst X43.here hx rfl (hb hby at_342) k) ?_
                  refine Fin.go (fun _ k => XS.istore X43.here hx rfl (hb hby at_343) rfl (l' := #[.val (.int p0), .val (.int p1), .val (.long w0), .second, .val (.long w1), .second, .val (.int p6), .val (.int p7), .val (.int (p1 &&& (3 : Int32))), .val (.int x9), .val (.int (2 : Int32)), .val (.ref a32), .val (.int A0), .val (.int A1), .val (.int B0), .val (.int B1), .val (.int Lu), .val (.int Lg), .val (.ref a35), .val (.ref a36), .val (.ref a37), .val (.ref a41), .val (.int (cnt2 x9 (eqI (strL Lg B0 B1) (strL Lu A0 A1)) w0 w1)), .val (.int (0 : Int32))]) rfl k) ?_
                  refine Fin.go (fun _ k => XS.goto X43.here hx rfl (pc0 := 345) (pc' := 390) rfl (hb hby at_345) (by decide) (by decide) k) ?_
                  refine Fin.go (fun _ k => XS.iload X43.here hx rfl (hb hby at_390) rfl k) ?_
                  show Fin _ p e below s _ _ _ T43 (mkF m 392 #[.val (.int p0), .val (.int p1), .val (.long w0), .second, .val (.long w1), .second, .val (.int p6), .val (.int p7), .val (.int (p1 &&& (3 : Int32))), .val (.int x9), .val (.int (2 : Int32)), .val (.ref a32), .val (.int A0), .val (.int A1), .val (.int B0), .val (.int B1), .val (.int Lu), .val (.int Lg), .val (.ref a35), .val (.ref a36), .val (.ref a37), .val (.ref a41), .val (.int (cnt2 x9 (eqI (strL Lg B0 B1) (strL Lu A0 A1)) w0 w1)), .val (.int (0 : Int32))] [(.int (cnt2 x9 (eqI (strL Lg B0 B1) (strL Lu A0 A1)) w0 w1))])
                  refine Fin.go (fun _ k => XS.iload X43.here hx rfl (hb hby at_392) rfl k) ?_
                  refine Fin.go (fun _ k => XS.icmpNo X43.here hx rfl (hb hby at_394) rfl (XT.ii_ne_f (by rw [cnt2_lo c257 c305 c318, tst_eq]; simp [c335])) k) ?_
                  show Fin _ p e below s _ _ _ T43 (mkF m 397 #[.val (.int p0), .val (.int p1), .val (.long w0), .second, .val (.long w1), .second, .val (.int p6), .val (.int p7), .val (.int (p1 &&& (3 : Int32))), .val (.int x9), .val (.int (2 : Int32)), .val (.ref a32), .val (.int A0), .val (.int A1), .val (.int B0), .val (.int B1), .val (.int Lu), .val (.int Lg), .val (.ref a35), .val (.ref a36), .val (.ref a37), .val (.ref a41), .val (.int (cnt2 x9 (eqI (strL Lg B0 B1) (strL Lu A0 A1)) w0 w1)), .val (.int (0 : Int32))] [])
                  refine Fin.go (fun _ k => XS.iconst X43.here hx rfl (hb hby at_397) k) ?_
                  refine Fin.go (fun _ k => XS.goto X43.here hx rfl (pc0 := 398) (pc' := 402) rfl (hb hby at_398) (by decide) (by decide) k) ?_
                  exact Fin.leaveH X43 hS40 hk42 hZ40 hEL e43 RR42 hlk (v := some (.int (nar .boolean (1 : Int32)))) (fun h => by rw [hret] at h; cases h) (by decide) (by decide) ⟨rfl, N43⟩ (fun fs hr => retN X43 hx (t := .boolean) hret (by simp) (hb hby at_402) hr)
                · refine Fin.go (fun _ k => XS.ifNo X43.here hx rfl (hb hby at_335) rfl (XT.i0_eq_f c335) k) ?_
                  show Fin _ p e below s _ _ _ T43 (mkF m 338 #[.val (.int p0), .val (.int p1), .val (.long w0), .second, .val (.long w1), .second, .val (.int p6), .val (.int p7), .val (.int (p1 &&& (3 : Int32))), .val (.int x9), .val (.int (2 : Int32)), .val (.ref a32), .val (.int A0), .val (.int A1), .val (.int B0), .val (.int B1), .val (.int Lu), .val (.int Lg), .val (.ref a35), .val (.ref a36), .val (.ref a37), .val (.ref a41), .val (.int (cnt2 x9 (eqI (strL Lg B0 B1) (strL Lu A0 A1)) w0 w1)), .unset] [])
                  refine Fin.go (fun _ k => XS.iconst X43.here hx rfl (hb hby at_338) k) ?_
                  refine Fin.go (fun _ k => XS.goto X43.here hx rfl (pc0 := 339) (pc' := 343) rfl (hb hby at_339) (by decide) (by decide) k) ?_
                  refine Fin.go (fun _ k => XS.istore X43.here hx rfl (hb hby at_343) rfl (l' := #[.val (.int p0), .val (.int p1), .val (.long w0), .second, .val (.long w1), .second, .val (.int p6), .val (.int p7), .val (.int (p1 &&& (3 : Int32))), .val (.int x9), .val (.int (2 : Int32)), .val (.ref a32), .val (.int A0), .val (.int A1), .val (.int B0), .val (.int B1), .val (.int Lu), .val (.int Lg), .val (.ref a35), .val (.ref a36), .val (.ref a37), .val (.ref a41), .val (.int (cnt2 x9 (eqI (strL Lg B0 B1) (strL Lu A0 A1)) w0 w1)), .val (.int (1 : Int32))]) rfl k) ?_
                  refine Fin.go (fun _ k => XS.goto X43.here hx rfl (pc0 := 345) (pc' := 390) rfl (hb hby at_345) (by decide) (by decide) k) ?_
                  show Fin _ p e below s _ _ _ T43 (mkF m 390 #[.val (.int p0), .val (.int p1), .val (.long w0), .second, .val (.long w1), .second, .val (.int p6), .val (.int p7), .val (.int (p1 &&& (3 : Int32))), .val (.int x9), .val (.int (2 : Int32)), .val (.ref a32), .val (.int A0), .val (.int A1), .val (.int B0), .val (.int B1), .val (.int Lu), .val (.int Lg), .val (.ref a35), .val (.ref a36), .val (.ref a37), .val (.ref a41), .val (.int (cnt2 x9 (eqI (strL Lg B0 B1) (strL Lu A0 A1)) w0 w1)), .val (.int (1 : Int32))] [])
                  refine Fin.go (fun _ k => XS.iload X43.here hx rfl (hb hby at_390) rfl k) ?_
                  refine Fin.go (fun _ k => XS.iload X43.here hx rfl (hb hby at_392) rfl k) ?_
                  refine Fin.go (fun _ k => XS.icmpNo X43.here hx rfl (hb hby at_394) rfl (XT.ii_ne_f (by rw [cnt2_lo c257 c305 c318, tst_eq]; simp [c335])) k) ?_
                  show Fin _ p e below s _ _ _ T43 (mkF m 397 #[.val (.int p0), .val (.int p1), .val (.long w0), .second, .val (.long w1), .second, .val (.int p6), .val (.int p7), .val (.int (p1 &&& (3 : Int32))), .val (.int x9), .val (.int (2 : Int32)), .val (.ref a32), .val (.int A0), .val (.int A1), .val (.int B0), .val (.int B1), .val (.int Lu), .val (.int Lg), .val (.ref a35), .val (.ref a36), .val (.ref a37), .val (.ref a41), .val (.int (cnt2 x9 (eqI (strL Lg B0 B1) (strL Lu A0 A1)) w0 w1)), .val (.int (1 : Int32))] [])
                  refine Fin.go (fun _ k => XS.iconst X43.here hx rfl (hb hby at_397) k) ?_
                  refine Fin.go (fun _ k => XS.goto X43.here hx rfl (pc0 := 398) (pc' := 402) rfl (hb hby at_398) (by decide) (by decide) k) ?_
                  exact Fin.leaveH X43 hS40 hk42 hZ40 hEL e43 RR42 hlk (v := some (.int (nar .boolean (1 : Int32)))) (fun h => by rw [hret] at h; cases h) (by decide) (by decide) ⟨rfl, N43⟩ (fun fs hr => retN X43 hx (t := .boolean) hret (by simp) (hb hby at_402) hr)
              · refine Fin.go (fun _ k => XS.icmpYes X43.here hx rfl (pc0 := 318) (pc' := 348) rfl (hb hby at_318) rfl (XT.ii_ge_t c318) (by decide) (by decide) k) ?_
                show Fin _ p e below s _ _ _ T43 (mkF m 348 #[.val (.int p0), .val (.int p1), .val (.long w0), .second, .val (.long w1), .second, .val (.int p6), .val (.int p7), .val (.int (p1 &&& (3 : Int32))), .val (.int x9), .val (.int (2 : Int32)), .val (.ref a32), .val (.int A0), .val (.int A1), .val (.int B0), .val (.int B1), .val (.int Lu), .val (.int Lg), .val (.ref a35), .val (.ref a36), .val (.ref a37), .val (.ref a41), .val (.int (cnt2 x9 (eqI (strL Lg B0 B1) (strL Lu A0 A1)) w0 w1)), .unset] [])
                refine Fin.go (fun _ k => XS.iload X43.here hx rfl (hb hby at_348) rfl k) ?_
                refine Fin.go (fun _ k => XS.sipush X43.here hx rfl (hb hby at_350) k) ?_
                by_cases c353 : x9 < (128 : Int32)
                · refine Fin.go (fun _ k => XS.icmpNo X43.here hx rfl (hb hby at_353) rfl (XT.ii_ge_f c353) k) ?_
                  show Fin _ p e below s _ _ _ T43 (mkF m 356 #[.val (.int p0), .val (.int p1), .val (.long w0), .second, .val (.long w1), .second, .val (.int p6), .val (.int p7), .val (.int (p1 &&& (3 : Int32))), .val (.int x9), .val (.int (2 : Int32)), .val (.ref a32), .val (.int A0), .val (.int A1), .val (.int B0), .val (.int B1), .val (.int Lu), .val (.int Lg), .val (.ref a35), .val (.ref a36), .val (.ref a37), .val (.ref a41), .val (.int (cnt2 x9 (eqI (strL Lg B0 B1) (strL Lu A0 A1)) w0 w1)), .unset] [])
                  refine Fin.go (fun _ k => XS.iload X43.here hx rfl (hb hby at_356) rfl k) ?_
                  refine Fin.go (fun _ k => XS.iconst X43.here hx rfl (hb hby at_358) k) ?_
                  refine Fin.go (fun _ k => XS.icmpNo X43.here hx rfl (hb hby at_359) rfl (XT.ii_lt_f (by decide)) k) ?_
                  show Fin _ p e below s _ _ _ T43 (mkF m 362 #[.val (.int p0), .val (.int p1), .val (.long w0), .second, .val (.long w1), .second, .val (.int p6), .val (.int p7), .val (.int (p1 &&& (3 : Int32))), .val (.int x9), .val (.int (2 : Int32)), .val (.ref a32), .val (.int A0), .val (.int A1), .val (.int B0), .val (.int B1), .val (.int Lu), .val (.int Lg), .val (.ref a35), .val (.ref a36), .val (.ref a37), .val (.ref a41), .val (.int (cnt2 x9 (eqI (strL Lg B0 B1) (strL Lu A0 A1)) w0 w1)), .unset] [])
                  refine Fin.go (fun _ k => XT.lload X43.here hx rfl (hb hby at_362) rfl k) ?_
                  refine Fin.go (fun _ k => XS.iload X43.here hx rfl (hb hby at_364) rfl k) ?_
                  refine Fin.go (fun _ k => XS.bipush X43.here hx rfl (hb hby at_366) k) ?_
                  refine Fin.go (fun _ k => XS.isub X43.here hx rfl (hb hby at_368) rfl k) ?_
                  show Fin _ p e below s _ _ _ T43 (mkF m 369 #[.val (.int p0), .val (.int p1), .val (.long w0), .second, .val (.long w1), .second, .val (.int p6), .val (.int p7), .val (.int (p1 &&& (3 : Int32))), .val (.int x9), .val (.int (2 : Int32)), .val (.ref a32), .val (.int A0), .val (.int A1), .val (.int B0), .val (.int B1), .val (.int Lu), .val (.int Lg), .val (.ref a35), .val (.ref a36), .val (.ref a37), .val (.ref a41), .val (.int (cnt2 x9 (eqI (strL Lg B0 B1) (strL Lu A0 A1)) w0 w1)), .unset] [(.int (x9 - (64 : Int32))), (.long w1)])
                  refine Fin.go (fun _ k => XT.lushr X43.here hx rfl (hb hby at_369) rfl k) ?_
                  refine Fin.go (fun _ k => XT.lconst X43.here hx rfl (hb hby at_370) k) ?_
                  refine Fin.go (fun _ k => XT.land X43.here hx rfl (hb hby at_371) rfl k) ?_
                  refine Fin.go (fun _ k => XT.lconst X43.here hx rfl (hb hby at_372) k) ?_
                  show Fin _ p e below s _ _ _ T43 (mkF m 373 #[.val (.int p0), .val (.int p1), .val (.long w0), .second, .val (.long w1), .second, .val (.int p6), .val (.int p7), .val (.int (p1 &&& (3 : Int32))), .val (.int x9), .val (.int (2 : Int32)), .val (.ref a32), .val (.int A0), .val (.int A1), .val (.int B0), .val (.int B1), .val (.int Lu), .val (.int Lg), .val (.ref a35), .val (.ref a36), .val (.ref a37), .val (.ref a41), .val (.int (cnt2 x9 (eqI (strL Lg B0 B1) (strL Lu A0 A1)) w0 w1)), .unset] [(.long (0 : Int64)), (.long ((XT.ushrL w1 (x9 - (64 : Int32))) &&& (1 : Int64)))])
                  refine Fin.go (fun _ k => XT.lcmp X43.here hx rfl (hb hby at_373) rfl k) ?_
                  by_cases c374 : (XT.cmpL ((XT.ushrL w1 (x9 - (64 : Int32))) &&& (1 : Int64)) (0 : Int64)) = 0
                  · refine Fin.go (fun _ k => XS.ifYes X43.here hx rfl (pc0 := 374) (pc' := 381) rfl (hb hby at_374) rfl (XT.i0_eq_t c374) (by decide) (by decide) k) ?_
                    show Fin _ p e below s _ _ _ T43 (mkF m 381 #[.val (.int p0), .val (.int p1), .val (.long w0), .second, .val (.long w1), .second, .val (.int p6), .val (.int p7), .val (.int (p1 &&& (3 : Int32))), .val (.int x9), .val (.int (2 : Int32)), .val (.ref a32), .val (.int A0), .val (.int A1), .val (.int B0), .val (.int B1), .val (.int Lu), .val (.int Lg), .val (.ref a35), .val (.ref a36), .val (.ref a37), .val (.ref a41), .val (.int (cnt2 x9 (eqI (strL Lg B0 B1) (strL Lu A0 A1)) w0 w1)), .unset] [])
                    refine Fin.go (fun _ k => XS.iconst X43.here hx rfl (hb hby at_381) k) ?_
                    refine Fin.go (fun _ k => XS.istore X43.here hx rfl (hb hby at_382) rfl (l' := #[.val (.int p0), .val (.int p1), .val (.long w0), .second, .val (.long w1), .second, .val (.int p6), .val (.int p7), .val (.int (p1 &&& (3 : Int32))), .val (.int x9), .val (.int (2 : Int32)), .val (.ref a32), .val (.int A0), .val (.int A1), .val (.int B0), .val (.int B1), .val (.int Lu), .val (.int Lg), .val (.ref a35), .val (.ref a36), .val (.ref a37), .val (.ref a41), .val (.int (cnt2 x9 (eqI (strL Lg B0 B1) (strL Lu A0 A1)) w0 w1)), .val (.int (0 : Int32))]) rfl k) ?_
                    refine Fin.go (fun _ k => XS.goto X43.here hx rfl (pc0 := 384) (pc' := 390) rfl (hb hby at_384) (by decide) (by decide) k) ?_
                    refine Fin.go (fun _ k => XS.iload X43.here hx rfl (hb hby at_390) rfl k) ?_
                    show Fin _ p e below s _ _ _ T43 (mkF m 392 #[.val (.int p0), .val (.int p1), .val (.long w0), .second, .val (.long w1), .second, .val (.int p6), .val (.int p7), .val (.int (p1 &&& (3 : Int32))), .val (.int x9), .val (.int (2 : Int32)), .val (.ref a32), .val (.int A0), .val (.int A1), .val (.int B0), .val (.int B1), .val (.int Lu), .val (.int Lg), .val (.ref a35), .val (.ref a36), .val (.ref a37), .val (.ref a41), .val (.int (cnt2 x9 (eqI (strL Lg B0 B1) (strL Lu A0 A1)) w0 w1)), .val (.int (0 : Int32))] [(.int (cnt2 x9 (eqI (strL Lg B0 B1) (strL Lu A0 A1)) w0 w1))])
                    refine Fin.go (fun _ k => XS.iload X43.here hx rfl (hb hby at_392) rfl k) ?_
                    refine Fin.go (fun _ k => XS.icmpNo X43.here hx rfl (hb hby at_394) rfl (XT.ii_ne_f (by rw [cnt2_hi c257 c305 c318 c353, tst64 _ c318 c353]; simp [c374])) k) ?_
                    show Fin _ p e below s _ _ _ T43 (mkF m 397 #[.val (.int p0), .val (.int p1), .val (.long w0), .second, .val (.long w1), .second, .val (.int p6), .val (.int p7), .val (.int (p1 &&& (3 : Int32))), .val (.int x9), .val (.int (2 : Int32)), .val (.ref a32), .val (.int A0), .val (.int A1), .val (.int B0), .val (.int B1), .val (.int Lu), .val (.int Lg), .val (.ref a35), .val (.ref a36), .val (.ref a37), .val (.ref a41), .val (.int (cnt2 x9 (eqI (strL Lg B0 B1) (strL Lu A0 A1)) w0 w1)), .val (.int (0 : Int32))] [])
                    refine Fin.go (fun _ k => XS.iconst X43.here hx rfl (hb hby at_397) k) ?_
                    refine Fin.go (fun _ k => XS.goto X43.here hx rfl (pc0 := 398) (pc' := 402) rfl (hb hby at_398) (by decide) (by decide) k) ?_
                    exact Fin.leaveH X43 hS40 hk42 hZ40 hEL e43 RR42 hlk (v := some (.int (nar .boolean (1 : Int32)))) (fun h => by rw [hret] at h; cases h) (by decide) (by decide) ⟨rfl, N43⟩ (fun fs hr => retN X43 hx (t := .boolean) hret (by simp) (hb hby at_402) hr)
                  · refine Fin.go (fun _ k => XS.ifNo X43.here hx rfl (hb hby at_374) rfl (XT.i0_eq_f c374) k) ?_
                    show Fin _ p e below s _ _ _ T43 (mkF m 377 #[.val (.int p0), .val (.int p1), .val (.long w0), .second, .val (.long w1), .second, .val (.int p6), .val (.int p7), .val (.int (p1 &&& (3 : Int32))), .val (.int x9), .val (.int (2 : Int32)), .val (.ref a32), .val (.int A0), .val (.int A1), .val (.int B0), .val (.int B1), .val (.int Lu), .val (.int Lg), .val (.ref a35), .val (.ref a36), .val (.ref a37), .val (.ref a41), .val (.int (cnt2 x9 (eqI (strL Lg B0 B1) (strL Lu A0 A1)) w0 w1)), .unset] [])
                    refine Fin.go (fun _ k => XS.iconst X43.here hx rfl (hb hby at_377) k) ?_
                    refine Fin.go (fun _ k => XS.goto X43.here hx rfl (pc0 := 378) (pc' := 382) rfl (hb hby at_378) (by decide) (by decide) k) ?_
                    refine Fin.go (fun _ k => XS.istore X43.here hx rfl (hb hby at_382) rfl (l' := #[.val (.int p0), .val (.int p1), .val (.long w0), .second, .val (.long w1), .second, .val (.int p6), .val (.int p7), .val (.int (p1 &&& (3 : Int32))), .val (.int x9), .val (.int (2 : Int32)), .val (.ref a32), .val (.int A0), .val (.int A1), .val (.int B0), .val (.int B1), .val (.int Lu), .val (.int Lg), .val (.ref a35), .val (.ref a36), .val (.ref a37), .val (.ref a41), .val (.int (cnt2 x9 (eqI (strL Lg B0 B1) (strL Lu A0 A1)) w0 w1)), .val (.int (1 : Int32))]) rfl k) ?_
                    refine Fin.go (fun _ k => XS.goto X43.here hx rfl (pc0 := 384) (pc' := 390) rfl (hb hby at_384) (by decide) (by decide) k) ?_
                    show Fin _ p e below s _ _ _ T43 (mkF m 390 #[.val (.int p0), .val (.int p1), .val (.long w0), .second, .val (.long w1), .second, .val (.int p6), .val (.int p7), .val (.int (p1 &&& (3 : Int32))), .val (.int x9), .val (.int (2 : Int32)), .val (.ref a32), .val (.int A0), .val (.int A1), .val (.int B0), .val (.int B1), .val (.int Lu), .val (.int Lg), .val (.ref a35), .val (.ref a36), .val (.ref a37), .val (.ref a41), .val (.int (cnt2 x9 (eqI (strL Lg B0 B1) (strL Lu A0 A1)) w0 w1)), .val (.int (1 : Int32))] [])
                    refine Fin.go (fun _ k => XS.iload X43.here hx rfl (hb hby at_390) rfl k) ?_
                    refine Fin.go (fun _ k => XS.iload X43.here hx rfl (hb hby at_392) rfl k) ?_
                    refine Fin.go (fun _ k => XS.icmpNo X43.here hx rfl (hb hby at_394) rfl (XT.ii_ne_f (by rw [cnt2_hi c257 c305 c318 c353, tst64 _ c318 c353]; simp [c374])) k) ?_
                    show Fin _ p e below s _ _ _ T43 (mkF m 397 #[.val (.int p0), .val (.int p1), .val (.long w0), .second, .val (.long w1), .second, .val (.int p6), .val (.int p7), .val (.int (p1 &&& (3 : Int32))), .val (.int x9), .val (.int (2 : Int32)), .val (.ref a32), .val (.int A0), .val (.int A1), .val (.int B0), .val (.int B1), .val (.int Lu), .val (.int Lg), .val (.ref a35), .val (.ref a36), .val (.ref a37), .val (.ref a41), .val (.int (cnt2 x9 (eqI (strL Lg B0 B1) (strL Lu A0 A1)) w0 w1)), .val (.int (1 : Int32))] [])
                    refine Fin.go (fun _ k => XS.iconst X43.here hx rfl (hb hby at_397) k) ?_
                    refine Fin.go (fun _ k => XS.goto X43.here hx rfl (pc0 := 398) (pc' := 402) rfl (hb hby at_398) (by decide) (by decide) k) ?_
                    exact Fin.leaveH X43 hS40 hk42 hZ40 hEL e43 RR42 hlk (v := some (.int (nar .boolean (1 : Int32)))) (fun h => by rw [hret] at h; cases h) (by decide) (by decide) ⟨rfl, N43⟩ (fun fs hr => retN X43 hx (t := .boolean) hret (by simp) (hb hby at_402) hr)
                · refine Fin.go (fun _ k => XS.icmpYes X43.here hx rfl (pc0 := 353) (pc' := 387) rfl (hb hby at_353) rfl (XT.ii_ge_t c353) (by decide) (by decide) k) ?_
                  show Fin _ p e below s _ _ _ T43 (mkF m 387 #[.val (.int p0), .val (.int p1), .val (.long w0), .second, .val (.long w1), .second, .val (.int p6), .val (.int p7), .val (.int (p1 &&& (3 : Int32))), .val (.int x9), .val (.int (2 : Int32)), .val (.ref a32), .val (.int A0), .val (.int A1), .val (.int B0), .val (.int B1), .val (.int Lu), .val (.int Lg), .val (.ref a35), .val (.ref a36), .val (.ref a37), .val (.ref a41), .val (.int (cnt2 x9 (eqI (strL Lg B0 B1) (strL Lu A0 A1)) w0 w1)), .unset] [])
                  refine Fin.go (fun _ k => XS.iconst X43.here hx rfl (hb hby at_387) k) ?_
                  refine Fin.go (fun _ k => XS.istore X43.here hx rfl (hb hby at_388) rfl (l' := #[.val (.int p0), .val (.int p1), .val (.long w0), .second, .val (.long w1), .second, .val (.int p6), .val (.int p7), .val (.int (p1 &&& (3 : Int32))), .val (.int x9), .val (.int (2 : Int32)), .val (.ref a32), .val (.int A0), .val (.int A1), .val (.int B0), .val (.int B1), .val (.int Lu), .val (.int Lg), .val (.ref a35), .val (.ref a36), .val (.ref a37), .val (.ref a41), .val (.int (cnt2 x9 (eqI (strL Lg B0 B1) (strL Lu A0 A1)) w0 w1)), .val (.int (0 : Int32))]) rfl k) ?_
                  refine Fin.go (fun _ k => XS.iload X43.here hx rfl (hb hby at_390) rfl k) ?_
                  refine Fin.go (fun _ k => XS.iload X43.here hx rfl (hb hby at_392) rfl k) ?_
                  show Fin _ p e below s _ _ _ T43 (mkF m 394 #[.val (.int p0), .val (.int p1), .val (.long w0), .second, .val (.long w1), .second, .val (.int p6), .val (.int p7), .val (.int (p1 &&& (3 : Int32))), .val (.int x9), .val (.int (2 : Int32)), .val (.ref a32), .val (.int A0), .val (.int A1), .val (.int B0), .val (.int B1), .val (.int Lu), .val (.int Lg), .val (.ref a35), .val (.ref a36), .val (.ref a37), .val (.ref a41), .val (.int (cnt2 x9 (eqI (strL Lg B0 B1) (strL Lu A0 A1)) w0 w1)), .val (.int (0 : Int32))] [(.int (0 : Int32)), (.int (cnt2 x9 (eqI (strL Lg B0 B1) (strL Lu A0 A1)) w0 w1))])
                  refine Fin.go (fun _ k => XS.icmpNo X43.here hx rfl (hb hby at_394) rfl (XT.ii_ne_f (cnt2_0 c257 (Or.inr c353))) k) ?_
                  show Fin _ p e below s _ _ _ T43 (mkF m 397 #[.val (.int p0), .val (.int p1), .val (.long w0), .second, .val (.long w1), .second, .val (.int p6), .val (.int p7), .val (.int (p1 &&& (3 : Int32))), .val (.int x9), .val (.int (2 : Int32)), .val (.ref a32), .val (.int A0), .val (.int A1), .val (.int B0), .val (.int B1), .val (.int Lu), .val (.int Lg), .val (.ref a35), .val (.ref a36), .val (.ref a37), .val (.ref a41), .val (.int (cnt2 x9 (eqI (strL Lg B0 B1) (strL Lu A0 A1)) w0 w1)), .val (.int (0 : Int32))] [])
                  refine Fin.go (fun _ k => XS.iconst X43.here hx rfl (hb hby at_397) k) ?_
                  refine Fin.go (fun _ k => XS.goto X43.here hx rfl (pc0 := 398) (pc' := 402) rfl (hb hby at_398) (by decide) (by decide) k) ?_
                  exact Fin.leaveH X43 hS40 hk42 hZ40 hEL e43 RR42 hlk (v := some (.int (nar .boolean (1 : Int32)))) (fun h => by rw [hret] at h; cases h) (by decide) (by decide) ⟨rfl, N43⟩ (fun fs hr => retN X43 hx (t := .boolean) hret (by simp) (hb hby at_402) hr)
        show Fin _ p e below s _ _ _ T39 (mkF m 213 #[.val (.int p0), .val (.int p1), .val (.long w0), .second, .val (.long w1), .second, .val (.int p6), .val (.int p7), .val (.int (p1 &&& (3 : Int32))), .val (.int x9), .val (.int (2 : Int32)), .val (.ref a32), .val (.int A0), .val (.int A1), .val (.int B0), .val (.int B1), .val (.int Lu), .val (.int Lg), .val (.ref a35), .val (.ref a36), .unset, .unset, .unset, .unset] [(.ref o39), (.ref a35), (.ref a36), (.ref a37), (.ref a37)])
        refine Fin.go (fun _ k => XS.iloadN X39.here hx rfl (hb hby at_213) rfl k) ?_
        refine Fin.go (fun _ k => XS.iconst X39.here hx rfl (hb hby at_214) k) ?_
        refine Fin.go (fun _ k => XS.iand X39.here hx rfl (hb hby at_215) rfl k) ?_
        by_cases c216 : (p1 &&& (4 : Int32)) = 0
        · refine Fin.go (fun _ k => XS.ifYes X39.here hx rfl (pc0 := 216) (pc' := 223) rfl (hb hby at_216) rfl (XT.i0_eq_t c216) (by decide) (by decide) k) ?_
          show Fin _ p e below s _ _ _ T39 (mkF m 223 #[.val (.int p0), .val (.int p1), .val (.long w0), .second, .val (.long w1), .second, .val (.int p6), .val (.int p7), .val (.int (p1 &&& (3 : Int32))), .val (.int x9), .val (.int (2 : Int32)), .val (.ref a32), .val (.int A0), .val (.int A1), .val (.int B0), .val (.int B1), .val (.int Lu), .val (.int Lg), .val (.ref a35), .val (.ref a36), .unset, .unset, .unset, .unset] [(.ref o39), (.ref a35), (.ref a36), (.ref a37), (.ref a37)])
          refine Fin.go (fun _ k => XS.iconst X39.here hx rfl (hb hby at_223) k) ?_
          show Fin _ p e below s _ _ _ T39 (mkF m 224 #[.val (.int p0), .val (.int p1), .val (.long w0), .second, .val (.long w1), .second, .val (.int p6), .val (.int p7), .val (.int (p1 &&& (3 : Int32))), .val (.int x9), .val (.int (2 : Int32)), .val (.ref a32), .val (.int A0), .val (.int A1), .val (.int B0), .val (.int B1), .val (.int Lu), .val (.int Lg), .val (.ref a35), .val (.ref a36), .unset, .unset, .unset, .unset] [(.int (0 : Int32)), (.ref o39), (.ref a35), (.ref a36), (.ref a37), (.ref a37)])
          exact tl _ (Or.inl rfl)
        · refine Fin.go (fun _ k => XS.ifNo X39.here hx rfl (hb hby at_216) rfl (XT.i0_eq_f c216) k) ?_
          show Fin _ p e below s _ _ _ T39 (mkF m 219 #[.val (.int p0), .val (.int p1), .val (.long w0), .second, .val (.long w1), .second, .val (.int p6), .val (.int p7), .val (.int (p1 &&& (3 : Int32))), .val (.int x9), .val (.int (2 : Int32)), .val (.ref a32), .val (.int A0), .val (.int A1), .val (.int B0), .val (.int B1), .val (.int Lu), .val (.int Lg), .val (.ref a35), .val (.ref a36), .unset, .unset, .unset, .unset] [(.ref o39), (.ref a35), (.ref a36), (.ref a37), (.ref a37)])
          refine Fin.go (fun _ k => XS.iconst X39.here hx rfl (hb hby at_219) k) ?_
          refine Fin.go (fun _ k => XS.goto X39.here hx rfl (pc0 := 220) (pc' := 224) rfl (hb hby at_220) (by decide) (by decide) k) ?_
          show Fin _ p e below s _ _ _ T39 (mkF m 224 #[.val (.int p0), .val (.int p1), .val (.long w0), .second, .val (.long w1), .second, .val (.int p6), .val (.int p7), .val (.int (p1 &&& (3 : Int32))), .val (.int x9), .val (.int (2 : Int32)), .val (.ref a32), .val (.int A0), .val (.int A1), .val (.int B0), .val (.int B1), .val (.int Lu), .val (.int Lg), .val (.ref a35), .val (.ref a36), .unset, .unset, .unset, .unset] [(.int (1 : Int32)), (.ref o39), (.ref a35), (.ref a36), (.ref a37), (.ref a37)])
          exact tl _ (Or.inr rfl)
  show Fin _ p e below s _ _ _ s₁ (mkF m 0 #[.val (.int p0), .val (.int p1), .val (.long w0), .second, .val (.long w1), .second, .val (.int p6), .val (.int p7), .unset, .unset, .unset, .unset, .unset, .unset, .unset, .unset, .unset, .unset, .unset, .unset, .unset, .unset, .unset, .unset] [])
  refine Fin.go (fun _ k => XS.iloadN X0.here hx rfl (hb hby at_0) rfl k) ?_
  refine Fin.go (fun _ k => XS.iconst X0.here hx rfl (hb hby at_1) k) ?_
  refine Fin.go (fun _ k => XS.iand X0.here hx rfl (hb hby at_2) rfl k) ?_
  refine Fin.go (fun _ k => XS.istore X0.here hx rfl (hb hby at_3) rfl (l' := #[.val (.int p0), .val (.int p1), .val (.long w0), .second, .val (.long w1), .second, .val (.int p6), .val (.int p7), .val (.int (p1 &&& (3 : Int32))), .unset, .unset, .unset, .unset, .unset, .unset, .unset, .unset, .unset, .unset, .unset, .unset, .unset, .unset, .unset]) rfl k) ?_
  show Fin _ p e below s _ _ _ s₁ (mkF m 5 #[.val (.int p0), .val (.int p1), .val (.long w0), .second, .val (.long w1), .second, .val (.int p6), .val (.int p7), .val (.int (p1 &&& (3 : Int32))), .unset, .unset, .unset, .unset, .unset, .unset, .unset, .unset, .unset, .unset, .unset, .unset, .unset, .unset, .unset] [])
  refine Fin.go (fun _ k => XS.iload X0.here hx rfl (hb hby at_5) rfl k) ?_
  by_cases c7 : (p1 &&& (3 : Int32)) = 0
  · refine Fin.go (fun _ k => XS.ifNo X0.here hx rfl (hb hby at_7) rfl (XT.i0_ne_f c7) k) ?_
    show Fin _ p e below s _ _ _ s₁ (mkF m 10 #[.val (.int p0), .val (.int p1), .val (.long w0), .second, .val (.long w1), .second, .val (.int p6), .val (.int p7), .val (.int (p1 &&& (3 : Int32))), .unset, .unset, .unset, .unset, .unset, .unset, .unset, .unset, .unset, .unset, .unset, .unset, .unset, .unset, .unset] [])
    refine Fin.go (fun _ k => XS.iconst X0.here hx rfl (hb hby at_10) k) ?_
    refine Fin.go (fun _ k => XS.istore X0.here hx rfl (hb hby at_11) rfl (l' := #[.val (.int p0), .val (.int p1), .val (.long w0), .second, .val (.long w1), .second, .val (.int p6), .val (.int p7), .val (.int (p1 &&& (3 : Int32))), .val (.int (-1 : Int32)), .unset, .unset, .unset, .unset, .unset, .unset, .unset, .unset, .unset, .unset, .unset, .unset, .unset, .unset]) rfl k) ?_
    refine Fin.go (fun _ k => XS.goto X0.here hx rfl (pc0 := 13) (pc' := 50) rfl (hb hby at_13) (by decide) (by decide) k) ?_
    show Fin _ p e below s _ _ _ s₁ (mkF m 50 #[.val (.int p0), .val (.int p1), .val (.long w0), .second, .val (.long w1), .second, .val (.int p6), .val (.int p7), .val (.int (p1 &&& (3 : Int32))), .val (.int (-1 : Int32)), .unset, .unset, .unset, .unset, .unset, .unset, .unset, .unset, .unset, .unset, .unset, .unset, .unset, .unset] [])
    exact tail (-1 : Int32)
  · refine Fin.go (fun _ k => XS.ifYes X0.here hx rfl (pc0 := 7) (pc' := 16) rfl (hb hby at_7) rfl (XT.i0_ne_t c7) (by decide) (by decide) k) ?_
    show Fin _ p e below s _ _ _ s₁ (mkF m 16 #[.val (.int p0), .val (.int p1), .val (.long w0), .second, .val (.long w1), .second, .val (.int p6), .val (.int p7), .val (.int (p1 &&& (3 : Int32))), .unset, .unset, .unset, .unset, .unset, .unset, .unset, .unset, .unset, .unset, .unset, .unset, .unset, .unset, .unset] [])
    refine Fin.go (fun _ k => XS.iload X0.here hx rfl (hb hby at_16) rfl k) ?_
    refine Fin.go (fun _ k => XS.iconst X0.here hx rfl (hb hby at_18) k) ?_
    by_cases c19 : (p1 &&& (3 : Int32)) = (1 : Int32)
    · refine Fin.go (fun _ k => XS.icmpNo X0.here hx rfl (hb hby at_19) rfl (XT.ii_ne_f c19) k) ?_
      show Fin _ p e below s _ _ _ s₁ (mkF m 22 #[.val (.int p0), .val (.int p1), .val (.long w0), .second, .val (.long w1), .second, .val (.int p6), .val (.int p7), .val (.int (p1 &&& (3 : Int32))), .unset, .unset, .unset, .unset, .unset, .unset, .unset, .unset, .unset, .unset, .unset, .unset, .unset, .unset, .unset] [])
      refine Fin.go (fun _ k => XS.iloadN X0.here hx rfl (hb hby at_22) rfl k) ?_
      refine Fin.go (fun _ k => XS.sipush X0.here hx rfl (hb hby at_23) k) ?_
      refine Fin.go (fun _ k => XS.iand X0.here hx rfl (hb hby at_26) rfl k) ?_
      refine Fin.go (fun _ k => XS.istore X0.here hx rfl (hb hby at_27) rfl (l' := #[.val (.int p0), .val (.int p1), .val (.long w0), .second, .val (.long w1), .second, .val (.int p6), .val (.int p7), .val (.int (p1 &&& (3 : Int32))), .val (.int (p0 &&& (255 : Int32))), .unset, .unset, .unset, .unset, .unset, .unset, .unset, .unset, .unset, .unset, .unset, .unset, .unset, .unset]) rfl k) ?_
      show Fin _ p e below s _ _ _ s₁ (mkF m 29 #[.val (.int p0), .val (.int p1), .val (.long w0), .second, .val (.long w1), .second, .val (.int p6), .val (.int p7), .val (.int (p1 &&& (3 : Int32))), .val (.int (p0 &&& (255 : Int32))), .unset, .unset, .unset, .unset, .unset, .unset, .unset, .unset, .unset, .unset, .unset, .unset, .unset, .unset] [])
      refine Fin.go (fun _ k => XS.goto X0.here hx rfl (pc0 := 29) (pc' := 50) rfl (hb hby at_29) (by decide) (by decide) k) ?_
      show Fin _ p e below s _ _ _ s₁ (mkF m 50 #[.val (.int p0), .val (.int p1), .val (.long w0), .second, .val (.long w1), .second, .val (.int p6), .val (.int p7), .val (.int (p1 &&& (3 : Int32))), .val (.int (p0 &&& (255 : Int32))), .unset, .unset, .unset, .unset, .unset, .unset, .unset, .unset, .unset, .unset, .unset, .unset, .unset, .unset] [])
      exact tail (p0 &&& (255 : Int32))
    · refine Fin.go (fun _ k => XS.icmpYes X0.here hx rfl (pc0 := 19) (pc' := 32) rfl (hb hby at_19) rfl (XT.ii_ne_t c19) (by decide) (by decide) k) ?_
      show Fin _ p e below s _ _ _ s₁ (mkF m 32 #[.val (.int p0), .val (.int p1), .val (.long w0), .second, .val (.long w1), .second, .val (.int p6), .val (.int p7), .val (.int (p1 &&& (3 : Int32))), .unset, .unset, .unset, .unset, .unset, .unset, .unset, .unset, .unset, .unset, .unset, .unset, .unset, .unset, .unset] [])
      refine Fin.go (fun _ k => XS.iload X0.here hx rfl (hb hby at_32) rfl k) ?_
      refine Fin.go (fun _ k => XS.iconst X0.here hx rfl (hb hby at_34) k) ?_
      by_cases c35 : (p1 &&& (3 : Int32)) = (2 : Int32)
      · refine Fin.go (fun _ k => XS.icmpNo X0.here hx rfl (hb hby at_35) rfl (XT.ii_ne_f c35) k) ?_
        show Fin _ p e below s _ _ _ s₁ (mkF m 38 #[.val (.int p0), .val (.int p1), .val (.long w0), .second, .val (.long w1), .second, .val (.int p6), .val (.int p7), .val (.int (p1 &&& (3 : Int32))), .unset, .unset, .unset, .unset, .unset, .unset, .unset, .unset, .unset, .unset, .unset, .unset, .unset, .unset, .unset] [])
        refine Fin.go (fun _ k => XS.iloadN X0.here hx rfl (hb hby at_38) rfl k) ?_
        refine Fin.go (fun _ k => XS.istore X0.here hx rfl (hb hby at_39) rfl (l' := #[.val (.int p0), .val (.int p1), .val (.long w0), .second, .val (.long w1), .second, .val (.int p6), .val (.int p7), .val (.int (p1 &&& (3 : Int32))), .val (.int p0), .unset, .unset, .unset, .unset, .unset, .unset, .unset, .unset, .unset, .unset, .unset, .unset, .unset, .unset]) rfl k) ?_
        refine Fin.go (fun _ k => XS.goto X0.here hx rfl (pc0 := 41) (pc' := 50) rfl (hb hby at_41) (by decide) (by decide) k) ?_
        show Fin _ p e below s _ _ _ s₁ (mkF m 50 #[.val (.int p0), .val (.int p1), .val (.long w0), .second, .val (.long w1), .second, .val (.int p6), .val (.int p7), .val (.int (p1 &&& (3 : Int32))), .val (.int p0), .unset, .unset, .unset, .unset, .unset, .unset, .unset, .unset, .unset, .unset, .unset, .unset, .unset, .unset] [])
        exact tail p0
      · refine Fin.go (fun _ k => XS.icmpYes X0.here hx rfl (pc0 := 35) (pc' := 44) rfl (hb hby at_35) rfl (XT.ii_ne_t c35) (by decide) (by decide) k) ?_
        show Fin _ p e below s _ _ _ s₁ (mkF m 44 #[.val (.int p0), .val (.int p1), .val (.long w0), .second, .val (.long w1), .second, .val (.int p6), .val (.int p7), .val (.int (p1 &&& (3 : Int32))), .unset, .unset, .unset, .unset, .unset, .unset, .unset, .unset, .unset, .unset, .unset, .unset, .unset, .unset, .unset] [])
        refine Fin.go (fun _ k => XS.iloadN X0.here hx rfl (hb hby at_44) rfl k) ?_
        refine Fin.go (fun _ k => XS.bipush X0.here hx rfl (hb hby at_45) k) ?_
        refine Fin.go (fun _ k => XS.iand X0.here hx rfl (hb hby at_47) rfl k) ?_
        refine Fin.go (fun _ k => XS.istore X0.here hx rfl (hb hby at_48) rfl (l' := #[.val (.int p0), .val (.int p1), .val (.long w0), .second, .val (.long w1), .second, .val (.int p6), .val (.int p7), .val (.int (p1 &&& (3 : Int32))), .val (.int (p0 &&& (127 : Int32))), .unset, .unset, .unset, .unset, .unset, .unset, .unset, .unset, .unset, .unset, .unset, .unset, .unset, .unset]) rfl k) ?_
        show Fin _ p e below s _ _ _ s₁ (mkF m 50 #[.val (.int p0), .val (.int p1), .val (.long w0), .second, .val (.long w1), .second, .val (.int p6), .val (.int p7), .val (.int (p1 &&& (3 : Int32))), .val (.int (p0 &&& (127 : Int32))), .unset, .unset, .unset, .unset, .unset, .unset, .unset, .unset, .unset, .unset, .unset, .unset, .unset, .unset] [])
        exact tail (p0 &&& (127 : Int32))
set_option maxRecDepth 65536 in
set_option maxHeartbeats 40000000 in
theorem comes_1 {Post : Tables → Env → Array Value → State → Outcome → State → Prop} (hpost : ∀ tb e args s v u, (limb_1_1.after args s (.returned v) u = true ∧ limb_1_2.after args s (.returned v) u = true ∧ True) → ReturnedEndW s (.returned v) u (Jvm.fieldLocs frame_1_writes args s ++ Jvm.arrayLocs frame_1_arrays args s ++ Jvm.staticLocs frame_1_statics s) 40 5312 → Post tb e args s (.returned v) u) :
    ArmFor flags0 classFile x code maxLocals ret World_1 tables_1 room_1 Calls_1 rest_1 Pre_1 Post := by
  intro l hfl _ _ p e ha hc hk s m args below hf hA hF happ hP
  obtain ⟨hcalls, hrest, hpre⟩ := hP
  obtain ⟨-, -, -, hnamed, -, -, -, hat⟩ := (Spec.applies_iff hf).mp happ
  obtain ⟨hg, hn⟩ := and_e (Cond.before_iff.mp (show (Jvm.Cond.and given_1 narrow_1).before args s = true from hpre))
  obtain ⟨hcnt, hg⟩ := and_e hg
  obtain ⟨u0, u1, u2, u3, u4, u5, rfl⟩ : ∃ u0 u1 u2 u3 u4 u5 : Value, args = #[u0, u1, u2, u3, u4, u5] := by
    have hs : args.size = 6 := by simpa [Cond.value, given_1] using hcnt
    obtain ⟨L⟩ := args
    match L, hs with
    | [u0, u1, u2, u3, u4, u5], _ => exact ⟨u0, u1, u2, u3, u4, u5, rfl⟩
  have hw := fun d (hd : d ∈ tables_1) => atoms_spec (ws := Jvm.Cond.code x code maxLocals ret :: tables_1) hat d (List.mem_cons_of_mem _ hd)
  have hfit : Fit s := fun {y c} hc i hi => by
    obtain ⟨ha, rfl⟩ := Array.getElem?_eq_some_iff.mp hc
    have q := List.all_eq_true.mp ((Array.all_eq_true_iff_forall_mem.mp hF) _ (Array.getElem_mem ha)) i (List.mem_range.mpr hi)
    simpa [Array.getElem?_eq_getElem hi] using q
  obtain ⟨g0, hg⟩ := and_e hg
  obtain ⟨i0, ei0⟩ := is_v g0
  obtain rfl : u0 = (.int i0) := Option.some.inj ei0
  obtain ⟨g1, hg⟩ := and_e hg
  obtain ⟨i1, ei1⟩ := is_v g1
  obtain rfl : u1 = (.int i1) := Option.some.inj ei1
  obtain ⟨g2, hg⟩ := and_e hg
  obtain ⟨i2, ei2⟩ := isL_v g2
  obtain rfl : u2 = (.long i2) := Option.some.inj ei2
  obtain ⟨g3, hg⟩ := and_e hg
  obtain ⟨i3, ei3⟩ := isL_v g3
  obtain rfl : u3 = (.long i3) := Option.some.inj ei3
  obtain ⟨g4, hg⟩ := and_e hg
  obtain ⟨i4, ei4⟩ := is_v g4
  obtain rfl : u4 = (.int i4) := Option.some.inj ei4
  have g5 := hg
  obtain ⟨i5, ei5⟩ := is_v g5
  obtain rfl : u5 = (.int i5) := Option.some.inj ei5
  have hsets := fun (i : Nat) {w : Jvm.Cond} (h : jdkStatics_1[i]? = some w) => (atoms_of _ (rest_1_c_eq ▸ (show rest_1_c.before _ s = true from hrest))).1 w (List.mem_of_getElem? h)
  have x_aS := hn
  obtain ⟨aS, ev_aS⟩ := exa_v x_aS
  have A_aS := Exa.start ev_aS x_aS
  have S_aS := Sta.start ev_aS (Or.inr ⟨(hw _ w_32), (hw _ w_33)⟩)
  have hci := Cond.before_iff.mp (hsets 1 rfl)
  obtain ⟨cs, ecs⟩ := is_v hci
  have S_cs := Sta.start ecs (Or.inl (hsets 0 rfl))
  have hcs : ¬ cs = 0 := gotF (Cond.eq_ints ecs (Term.int_eval 0)) (not_v (Cond.before_iff.mp (hsets 2 rfl)))
  have hheld : ∀ p ∈ EL, Jvm.Lit.constHeld s p.1 p.2 := fun p hp => hcalls.1 p ((by decide : ∀ p ∈ EL, p ∈ consts_1) p hp)
  have hCH : CHv s EL s.vm s.heap := CHv.start (elW hw) hheld (hsets 2 rfl) (hw _ w_21) (hw _ w_7)
  obtain ⟨n, o, h1, h2, h3, _, L, rfl, ⟨rfl, N⟩, -, hq⟩ := law l s _ hw s.heap.size s.heap (Old.start s) i0 i1 i2 i3 i4 i5 cs S_cs hcs aS S_aS p e ha hc hk s m _ below hf ((Spec.applies_iff_loose hf).mp happ).1 ⟨rfl, State.Warmed39.refl s, rfl, hCH⟩ trivial
  refine ⟨n, _, h1, h2, h3, hpost _ _ _ _ _ _ ⟨Cond.after_iff.mpr rfl, Cond.after_iff.mpr (eq_i res_at (Term.int_eval (1)) rfl), trivial⟩ ⟨hq.1, hq.2.1, hq.2.2.1, (hq.2.2.2.sift fun y hy => Or.inr (N y hy)).mono (by decide) (by decide)⟩⟩
theorem main_1_1 : Claimed_1_1 := comes_1 fun _ _ _ _ _ _ h hF => ⟨h.1, hF⟩
theorem main_1_2 : Claimed_1_2 := comes_1 fun _ _ _ _ _ _ h hF => ⟨h.2.1, hF⟩
end Jvm.Pilot.@@N@@
namespace Jvm.Pilot.@@N@@
open Jvm Jvm.ClassFile Sem Op Lib Jvm.Free Jvm.Stand Jvm.Pilot.@@N@@.Jvm.D
/-! MADE BY PROGRAM (witnessworld.py) out of the Statement's table words and the real class files: 28 classes; the members and pool entries that the words name. The judged class is class 1, her method 2. -/
namespace start1
open Jvm.ClassFile
def u (s : String) : CpInfo := .utf8 (stringToUtf16 s)
/-- a pool by its gaps: so many unusable entries, then the entry; so many at the end -/
def gap : Nat → List CpInfo → List CpInfo
  | 0, r => r
  | n + 1, r => .unusable :: gap n r
def poolList (es : List (Nat × CpInfo)) (last : Nat) : List CpInfo := es.foldr (fun e r => gap e.1 (e.2 :: r)) (gap last [])
def pool (es : List (Nat × CpInfo)) (last : Nat) : Array CpInfo := ⟨poolList es last⟩
def fileOf (pool : Array CpInfo) (this : Nat) (attrs : Array Attribute := #[]) (ms : Array MethodInfo := #[]) (fl : Nat := 33) (sup : Nat := 0) (ifs : Array Nat := #[]) (fds : Array FieldInfo := #[]) : ClassFile where
  minorVersion := 0
  majorVersion := 65
  constantPool := pool
  accessFlags := fl
  thisClass := this
  superClass := sup
  interfaces := ifs
  fields := fds
  methods := ms
  attributes := attrs
def plain (name : String) (sup : Option ClassId) : Class where
  name := name
  kind := .ordinary
  loader := none
  accessFlags := 33
  super := sup
  interfaces := #[]
  cf := none
  fields := #[]
  methods := #[]
  instanceTypes := #[]
  staticTypes := #[]
  resolved := #[]
  callSites := []
  init := .initialized
  statics := none
  mirror := none

def pool0 : Array CpInfo := pool [(5, u "<init>"), (0, u "()V"), (1, .class_ 10), (1, u "java/lang/Object")] 113

def k0c0 : Code := { maxStack := 0, maxLocals := 1, code := object_method_1_code, exceptionTable := #[], attributes := #[] }
def k0m0 : Method := { name := "<init>", desc := "()V", sig := { parameters := [], returnType := none }, accessFlags := 1, code := some k0c0 }
/-- java/lang/Object -/
def k0 : Class := { plain "java/lang/Object" none with
  accessFlags := 33
  interfaces := #[]
  cf := some (fileOf pool0 8 #[] #[{ accessFlags := 1, nameIndex := 5, descriptorIndex := 6, attributes := #[] }] 33 0 #[] #[])
  fields := #[]
  methods := #[k0m0]
  instanceTypes := #[]
  staticTypes := #[]
  resolved := Array.replicate 124 none
  statics := none }

def pool1 : Array CpInfo := pool [(2, .class_ 4), (1, u "java/lang/Object"), (0, u "<init>"), (0, u "()V"), (0, .class_ 8), (0, u "java/lang/String"), (0, .methodref 7 10), (0, .nameAndType 5 11), (0, u "([C)V"), (0, .integer 2147483647), (0, .methodref 14 15), (0, .class_ 16), (0, .nameAndType 17 18), (0, u "com/example/grantwell/grantwell/engine/PrincipalCountsPinLaw"), (0, u "str"), (0, u "(ICC)Ljava/lang/String;"), (0, .class_ 20), (0, u "com/example/grantwell/grantwell/catalog/Grant"), (0, .fieldref 22 23), (0, .class_ 24), (0, .nameAndType 25 26), (0, u "com/example/grantwell/grantwell/catalog/Privilege"), (0, u "SELECT"), (0, u "Lcom/example/grantwell/grantwell/catalog/Privilege;"), (0, .methodref 28 29), (0, .class_ 30), (0, .nameAndType 31 32), (0, u "com/example/grantwell/grantwell/catalog/Action"), (0, u "onTable"), (0, u "(Lcom/example/grantwell/grantwell/catalog/Privilege;)Lcom/example/grantwell/grantwell/catalog/Action;"), (0, .methodref 19 34), (0, .nameAndType 5 35), (0, u "(Ljava/lang/String;Ljava/lang/String;Lcom/example/grantwell/grantwell/catalog/Action;Z)V"), (0, .class_ 37), (0, u "com/example/grantwell/grantwell/engine/Principal"), (0, .methodref 36 39), (0, .nameAndType 5 40), (0, u "(Ljava/lang/String;Ljava/util/Set;[J)V"), (0, .methodref 36 42), (0, .nameAndType 43 44), (0, u "counts"), (0, u "(ILcom/example/grantwell/grantwell/catalog/Grant;)Z"), (3, u "law"), (0, u "(IIJJII)Z")] 4

def k1m0 : Method := { name := "<init>", desc := "()V", sig := { parameters := [], returnType := none }, accessFlags := 2, code := none }
def k1c1 : Code := { maxStack := 6, maxLocals := 3, code := method_2_code, exceptionTable := #[], attributes := #[] }
def k1m1 : Method := { name := "str", desc := "(ICC)Ljava/lang/String;", sig := { parameters := [.int, .char, .char], returnType := some (.object "java/lang/String") }, accessFlags := 10, code := some k1c1 }
def k1c2 : Code := { maxStack := 7, maxLocals := 24, code := code, exceptionTable := #[], attributes := #[] }
def k1m2 : Method := { name := "law", desc := "(IIJJII)Z", sig := { parameters := [.int, .int, .long, .long, .int, .int], returnType := some .boolean }, accessFlags := 9, code := some k1c2 }
/-- com/example/grantwell/grantwell/engine/PrincipalCountsPinLaw -/
def k1 : Class := { plain "com/example/grantwell/grantwell/engine/PrincipalCountsPinLaw" (some 0) with
  accessFlags := 49
  interfaces := #[]
  cf := some (fileOf pool1 14 #[] #[{ accessFlags := 2, nameIndex := 5, descriptorIndex := 6, attributes := #[] }, { accessFlags := 10, nameIndex := 17, descriptorIndex := 18, attributes := #[] }, { accessFlags := 9, nameIndex := 48, descriptorIndex := 49, attributes := #[] }] 49 2 #[] #[])
  fields := #[]
  methods := #[k1m0, k1m1, k1m2]
  instanceTypes := #[]
  staticTypes := #[]
  resolved := Array.replicate 54 none
  statics := none }

def pool2 : Array CpInfo := pool [(1, .class_ 2), (0, u "java/io/Serializable"), (0, .class_ 4), (0, u "java/lang/Object")] 2

/-- java/io/Serializable -/
def k2 : Class := { plain "java/io/Serializable" (some 0) with
  accessFlags := 1537
  interfaces := #[]
  cf := some (fileOf pool2 1 #[] #[] 1537 3 #[] #[])
  fields := #[]
  methods := #[]
  instanceTypes := #[]
  staticTypes := #[]
  resolved := Array.replicate 7 none
  statics := none }

def pool3 : Array CpInfo := pool [(1, .class_ 2), (0, u "java/lang/Comparable"), (0, .class_ 4), (0, u "java/lang/Object")] 7

/-- java/lang/Comparable -/
def k3 : Class := { plain "java/lang/Comparable" (some 0) with
  accessFlags := 1537
  interfaces := #[]
  cf := some (fileOf pool3 1 #[] #[] 1537 3 #[] #[])
  fields := #[]
  methods := #[]
  instanceTypes := #[]
  staticTypes := #[]
  resolved := Array.replicate 12 none
  statics := none }

def pool4 : Array CpInfo := pool [(2, .class_ 4), (1, u "java/lang/CharSequence"), (42, .class_ 48), (0, u "java/lang/CharSequence$1CodePointIterator"), (10, .class_ 60), (0, u "java/lang/CharSequence$1CharIterator"), (5, .class_ 67), (0, u "java/lang/Object")] 63

/-- java/lang/CharSequence -/
def k4 : Class := { plain "java/lang/CharSequence" (some 0) with
  accessFlags := 1537
  interfaces := #[]
  cf := some (fileOf pool4 2 #[.nestMembers #[47, 59]] #[] 1537 66 #[] #[])
  fields := #[]
  methods := #[]
  instanceTypes := #[]
  staticTypes := #[]
  resolved := Array.replicate 131 none
  statics := none }

def pool5 : Array CpInfo := pool [(1, .class_ 2), (0, u "java/lang/constant/Constable"), (0, .class_ 4), (0, u "java/lang/Object")] 6

/-- java/lang/constant/Constable -/
def k5 : Class := { plain "java/lang/constant/Constable" (some 0) with
  accessFlags := 1537
  interfaces := #[]
  cf := some (fileOf pool5 1 #[] #[] 1537 3 #[] #[])
  fields := #[]
  methods := #[]
  instanceTypes := #[]
  staticTypes := #[]
  resolved := Array.replicate 11 none
  statics := none }

def pool6 : Array CpInfo := pool [(1, .class_ 2), (0, u "java/lang/constant/ConstantDesc"), (0, .class_ 4), (0, u "java/lang/Object")] 32

/-- java/lang/constant/ConstantDesc -/
def k6 : Class := { plain "java/lang/constant/ConstantDesc" (some 0) with
  accessFlags := 1537
  interfaces := #[]
  cf := some (fileOf pool6 1 #[] #[] 1537 3 #[] #[])
  fields := #[]
  methods := #[]
  instanceTypes := #[]
  staticTypes := #[]
  resolved := Array.replicate 37 none
  statics := none }

def pool7 : Array CpInfo := pool [(1, .methodref 2 3), (0, .class_ 4), (0, .nameAndType 5 6), (0, u "java/lang/Object"), (0, u "<init>"), (0, u "()V"), (0, .string 8), (0, u ""), (0, .fieldref 10 11), (0, .class_ 12), (0, .nameAndType 13 14), (0, u "java/lang/String"), (0, u "value"), (0, u "[B"), (0, .fieldref 10 16), (0, .nameAndType 17 18), (0, u "coder"), (0, u "B"), (2, u "hash"), (0, u "I"), (2, u "hashIsZero"), (0, u "Z"), (0, .methodref 10 28), (0, .nameAndType 5 29), (0, u "([CIILjava/lang/Void;)V"), (8, .fieldref 10 39), (0, .nameAndType 40 26), (0, u "COMPACT_STRINGS"), (1, .class_ 44), (1, u "java/lang/StringUTF16"), (0, u "compress"), (1, .methodref 42 48), (0, .nameAndType 49 50), (0, u "coderFromArrayLen"), (0, u "([BI)B"), (56, .class_ 109), (1, u "java/lang/StringLatin1"), (67, .methodref 42 178), (0, .nameAndType 45 179), (0, u "([CII)[B"), (361, .methodref 107 542), (0, .nameAndType 543 544), (0, u "equals"), (0, u "([B[B)Z"), (28, u "(Ljava/lang/Object;)Z"), (1, .class_ 576), (0, u "java/lang/CharSequence"), (22, u "CASE_INSENSITIVE_ORDER"), (0, u "Ljava/util/Comparator;"), (409, u "([C)V"), (90, u "serialPersistentFields"), (0, u "[Ljava/io/ObjectStreamField;"), (0, .class_ 1104), (0, u "java/lang/String$CaseInsensitiveComparator"), (1, .class_ 1107), (0, u "java/io/Serializable"), (0, .class_ 1109), (0, u "java/lang/Comparable"), (0, .class_ 1111), (0, u "java/lang/constant/Constable"), (0, .class_ 1113), (0, u "java/lang/constant/ConstantDesc"), (2, u "serialVersionUID"), (0, u "J"), (3, u "REPL"), (0, u "C"), (2, u "LATIN1"), (1, u "UTF16")] 323

def k7m0 : Method := { name := "<init>", desc := "()V", sig := { parameters := [], returnType := none }, accessFlags := 1, code := none }
def k7c1 : Code := { maxStack := 5, maxLocals := 2, code := jdk_42_method_3_code, exceptionTable := #[], attributes := #[] }
def k7m1 : Method := { name := "<init>", desc := "([C)V", sig := { parameters := [(.array .char)], returnType := none }, accessFlags := 1, code := some k7c1 }
def k7c2 : Code := { maxStack := 2, maxLocals := 3, code := jdk_42_method_66_code, exceptionTable := #[], attributes := #[] }
def k7m2 : Method := { name := "equals", desc := "(Ljava/lang/Object;)Z", sig := { parameters := [(.object "java/lang/Object")], returnType := some .boolean }, accessFlags := 1, code := some k7c2 }
def k7c3 : Code := { maxStack := 4, maxLocals := 6, code := jdk_42_method_149_code, exceptionTable := #[], attributes := #[] }
def k7m3 : Method := { name := "<init>", desc := "([CIILjava/lang/Void;)V", sig := { parameters := [(.array .char), .int, .int, (.object "java/lang/Void")], returnType := none }, accessFlags := 2, code := some k7c3 }
/-- java/lang/String -/
def k7 : Class := { plain "java/lang/String" (some 0) with
  accessFlags := 49
  interfaces := #[2, 3, 4, 5, 6]
  cf := some (fileOf pool7 10 #[.nestMembers #[1103]] #[{ accessFlags := 1, nameIndex := 5, descriptorIndex := 6, attributes := #[] }, { accessFlags := 1, nameIndex := 5, descriptorIndex := 1010, attributes := #[] }, { accessFlags := 1, nameIndex := 543, descriptorIndex := 573, attributes := #[] }, { accessFlags := 2, nameIndex := 5, descriptorIndex := 29, attributes := #[] }] 49 2 #[1106, 1108, 575, 1110, 1112] #[{ accessFlags := 18, nameIndex := 13, descriptorIndex := 14, attributes := #[] }, { accessFlags := 18, nameIndex := 17, descriptorIndex := 18, attributes := #[] }, { accessFlags := 2, nameIndex := 21, descriptorIndex := 22, attributes := #[] }, { accessFlags := 2, nameIndex := 25, descriptorIndex := 26, attributes := #[] }, { accessFlags := 26, nameIndex := 1116, descriptorIndex := 1117, attributes := #[] }, { accessFlags := 24, nameIndex := 40, descriptorIndex := 26, attributes := #[] }, { accessFlags := 26, nameIndex := 1101, descriptorIndex := 1102, attributes := #[] }, { accessFlags := 26, nameIndex := 1121, descriptorIndex := 1122, attributes := #[] }, { accessFlags := 25, nameIndex := 599, descriptorIndex := 600, attributes := #[] }, { accessFlags := 24, nameIndex := 1125, descriptorIndex := 18, attributes := #[] }, { accessFlags := 24, nameIndex := 1127, descriptorIndex := 18, attributes := #[] }])
  fields := #[{ name := "value", type := (.array .byte), accessFlags := 18, slot := 0, constantValue := 0 }, { name := "coder", type := .byte, accessFlags := 18, slot := 1, constantValue := 0 }, { name := "hash", type := .int, accessFlags := 2, slot := 2, constantValue := 0 }, { name := "hashIsZero", type := .boolean, accessFlags := 2, slot := 3, constantValue := 0 }, { name := "serialVersionUID", type := .long, accessFlags := 26, slot := 0, constantValue := 0 }, { name := "COMPACT_STRINGS", type := .boolean, accessFlags := 24, slot := 1, constantValue := 0 }, { name := "serialPersistentFields", type := (.array (.object "java/io/ObjectStreamField")), accessFlags := 26, slot := 2, constantValue := 0 }, { name := "REPL", type := .char, accessFlags := 26, slot := 3, constantValue := 0 }, { name := "CASE_INSENSITIVE_ORDER", type := (.object "java/util/Comparator"), accessFlags := 25, slot := 4, constantValue := 0 }, { name := "LATIN1", type := .byte, accessFlags := 24, slot := 5, constantValue := 0 }, { name := "UTF16", type := .byte, accessFlags := 24, slot := 6, constantValue := 0 }]
  methods := #[k7m0, k7m1, k7m2, k7m3]
  instanceTypes := #[(.array .byte), .byte, .int, .boolean]
  staticTypes := #[.long, .boolean, (.array (.object "java/io/ObjectStreamField")), .char, (.object "java/util/Comparator"), .byte, .byte]
  resolved := Array.replicate 1451 none
  statics := some 0 }

def pool8 : Array CpInfo := pool [(1, .methodref 2 3), (0, .class_ 4), (0, .nameAndType 5 6), (0, u "java/lang/Object"), (0, u "<init>"), (0, u "()V"), (0, .class_ 8), (0, u "java/lang/Record")] 13

def k8c0 : Code := { maxStack := 1, maxLocals := 1, code := jdk_30_method_1_code, exceptionTable := #[], attributes := #[] }
def k8m0 : Method := { name := "<init>", desc := "()V", sig := { parameters := [], returnType := none }, accessFlags := 4, code := some k8c0 }
/-- java/lang/Record -/
def k8 : Class := { plain "java/lang/Record" (some 0) with
  accessFlags := 1057
  interfaces := #[]
  cf := some (fileOf pool8 7 #[] #[{ accessFlags := 4, nameIndex := 5, descriptorIndex := 6, attributes := #[] }] 1057 2 #[] #[])
  fields := #[]
  methods := #[k8m0]
  instanceTypes := #[]
  staticTypes := #[]
  resolved := Array.replicate 22 none
  statics := none }

def pool9 : Array CpInfo := pool [(1, .methodref 2 3), (0, .class_ 4), (0, .nameAndType 5 6), (0, u "java/lang/Record"), (0, u "<init>"), (0, u "()V"), (0, .string 8), (0, u "grantee"), (0, .methodref 10 11), (0, .class_ 12), (0, .nameAndType 13 14), (0, u "java/util/Objects"), (0, u "requireNonNull"), (0, u "(Ljava/lang/Object;Ljava/lang/String;)Ljava/lang/Object;"), (0, .string 16), (0, u "grantor"), (0, .string 18), (0, u "action"), (0, .fieldref 20 21), (0, .class_ 22), (0, .nameAndType 8 23), (0, u "com/example/grantwell/grantwell/catalog/Grant"), (0, u "Ljava/lang/String;"), (0, .fieldref 20 25), (0, .nameAndType 16 23), (0, .fieldref 20 27), (0, .nameAndType 18 28), (0, u "Lcom/example/grantwell/grantwell/catalog/Action;"), (0, .fieldref 20 30), (0, .nameAndType 31 32), (0, u "grantOption"), (0, u "Z"), (2, u "(Ljava/lang/String;Ljava/lang/String;Lcom/example/grantwell/grantwell/catalog/Action;Z)V"), (17, u "()Ljava/lang/String;")] 27

def k9c0 : Code := { maxStack := 2, maxLocals := 5, code := prog_40_method_1_code, exceptionTable := #[], attributes := #[] }
def k9m0 : Method := { name := "<init>", desc := "(Ljava/lang/String;Ljava/lang/String;Lcom/example/grantwell/grantwell/catalog/Action;Z)V", sig := { parameters := [(.object "java/lang/String"), (.object "java/lang/String"), (.object "com/example/grantwell/grantwell/catalog/Action"), .boolean], returnType := none }, accessFlags := 1, code := some k9c0 }
def k9c1 : Code := { maxStack := 1, maxLocals := 1, code := prog_40_method_6_code, exceptionTable := #[], attributes := #[] }
def k9m1 : Method := { name := "grantee", desc := "()Ljava/lang/String;", sig := { parameters := [], returnType := some (.object "java/lang/String") }, accessFlags := 1, code := some k9c1 }
/-- com/example/grantwell/grantwell/catalog/Grant -/
def k9 : Class := { plain "com/example/grantwell/grantwell/catalog/Grant" (some 8) with
  accessFlags := 49
  interfaces := #[]
  cf := some (fileOf pool9 20 #[] #[{ accessFlags := 1, nameIndex := 5, descriptorIndex := 35, attributes := #[] }, { accessFlags := 1, nameIndex := 8, descriptorIndex := 53, attributes := #[] }] 49 2 #[] #[{ accessFlags := 18, nameIndex := 8, descriptorIndex := 23, attributes := #[] }, { accessFlags := 18, nameIndex := 16, descriptorIndex := 23, attributes := #[] }, { accessFlags := 18, nameIndex := 18, descriptorIndex := 28, attributes := #[] }, { accessFlags := 18, nameIndex := 31, descriptorIndex := 32, attributes := #[] }])
  fields := #[{ name := "grantee", type := (.object "java/lang/String"), accessFlags := 18, slot := 0, constantValue := 0 }, { name := "grantor", type := (.object "java/lang/String"), accessFlags := 18, slot := 1, constantValue := 0 }, { name := "action", type := (.object "com/example/grantwell/grantwell/catalog/Action"), accessFlags := 18, slot := 2, constantValue := 0 }, { name := "grantOption", type := .boolean, accessFlags := 18, slot := 3, constantValue := 0 }]
  methods := #[k9m0, k9m1]
  instanceTypes := #[(.object "java/lang/String"), (.object "java/lang/String"), (.object "com/example/grantwell/grantwell/catalog/Action"), .boolean]
  staticTypes := #[]
  resolved := Array.replicate 81 none
  statics := none }

def pool10 : Array CpInfo := pool [(2, .class_ 4), (1, u "java/lang/Enum"), (0, u "name"), (0, u "Ljava/lang/String;"), (2, u "ordinal"), (0, u "I"), (1, .class_ 14), (1, u "java/lang/Object"), (4, u "hash"), (86, .class_ 108), (1, u "java/lang/Enum$EnumDesc"), (2, .class_ 112), (0, u "java/lang/constant/Constable"), (0, .class_ 114), (0, u "java/lang/Comparable"), (0, .class_ 116), (0, u "java/io/Serializable")] 87

/-- java/lang/Enum -/
def k10 : Class := { plain "java/lang/Enum" (some 0) with
  accessFlags := 1057
  interfaces := #[5, 3, 2]
  cf := some (fileOf pool10 2 #[.nestMembers #[106]] #[] 1057 12 #[111, 113, 115] #[{ accessFlags := 18, nameIndex := 5, descriptorIndex := 6, attributes := #[] }, { accessFlags := 18, nameIndex := 9, descriptorIndex := 10, attributes := #[] }, { accessFlags := 2, nameIndex := 19, descriptorIndex := 10, attributes := #[] }])
  fields := #[{ name := "name", type := (.object "java/lang/String"), accessFlags := 18, slot := 0, constantValue := 0 }, { name := "ordinal", type := .int, accessFlags := 18, slot := 1, constantValue := 0 }, { name := "hash", type := .int, accessFlags := 2, slot := 2, constantValue := 0 }]
  methods := #[]
  instanceTypes := #[(.object "java/lang/String"), .int, .int]
  staticTypes := #[]
  resolved := Array.replicate 204 none
  statics := none }

def pool11 : Array CpInfo := pool [(1, .class_ 2), (0, u "com/example/grantwell/grantwell/catalog/Privilege"), (2, u "SELECT"), (0, u "Lcom/example/grantwell/grantwell/catalog/Privilege;"), (2, u "INSERT"), (2, u "UPDATE"), (2, u "DELETE"), (2, u "REFERENCES"), (2, u "USAGE"), (2, u "$VALUES"), (0, u "[Lcom/example/grantwell/grantwell/catalog/Privilege;"), (6, .class_ 34), (1, u "java/lang/Enum"), (8, u "onColumns"), (0, u "Z")] 27

/-- com/example/grantwell/grantwell/catalog/Privilege -/
def k11 : Class := { plain "com/example/grantwell/grantwell/catalog/Privilege" (some 10) with
  accessFlags := 16433
  interfaces := #[]
  cf := some (fileOf pool11 1 #[] #[] 16433 32 #[] #[{ accessFlags := 16409, nameIndex := 5, descriptorIndex := 6, attributes := #[] }, { accessFlags := 16409, nameIndex := 9, descriptorIndex := 6, attributes := #[] }, { accessFlags := 16409, nameIndex := 12, descriptorIndex := 6, attributes := #[] }, { accessFlags := 16409, nameIndex := 15, descriptorIndex := 6, attributes := #[] }, { accessFlags := 16409, nameIndex := 18, descriptorIndex := 6, attributes := #[] }, { accessFlags := 16409, nameIndex := 21, descriptorIndex := 6, attributes := #[] }, { accessFlags := 18, nameIndex := 43, descriptorIndex := 44, attributes := #[] }, { accessFlags := 4122, nameIndex := 24, descriptorIndex := 25, attributes := #[] }])
  fields := #[{ name := "SELECT", type := (.object "com/example/grantwell/grantwell/catalog/Privilege"), accessFlags := 16409, slot := 0, constantValue := 0 }, { name := "INSERT", type := (.object "com/example/grantwell/grantwell/catalog/Privilege"), accessFlags := 16409, slot := 1, constantValue := 0 }, { name := "UPDATE", type := (.object "com/example/grantwell/grantwell/catalog/Privilege"), accessFlags := 16409, slot := 2, constantValue := 0 }, { name := "DELETE", type := (.object "com/example/grantwell/grantwell/catalog/Privilege"), accessFlags := 16409, slot := 3, constantValue := 0 }, { name := "REFERENCES", type := (.object "com/example/grantwell/grantwell/catalog/Privilege"), accessFlags := 16409, slot := 4, constantValue := 0 }, { name := "USAGE", type := (.object "com/example/grantwell/grantwell/catalog/Privilege"), accessFlags := 16409, slot := 5, constantValue := 0 }, { name := "onColumns", type := .boolean, accessFlags := 18, slot := 3, constantValue := 0 }, { name := "$VALUES", type := (.array (.object "com/example/grantwell/grantwell/catalog/Privilege")), accessFlags := 4122, slot := 6, constantValue := 0 }]
  methods := #[]
  instanceTypes := #[(.object "java/lang/String"), .int, .int, .boolean]
  staticTypes := #[(.object "com/example/grantwell/grantwell/catalog/Privilege"), (.object "com/example/grantwell/grantwell/catalog/Privilege"), (.object "com/example/grantwell/grantwell/catalog/Privilege"), (.object "com/example/grantwell/grantwell/catalog/Privilege"), (.object "com/example/grantwell/grantwell/catalog/Privilege"), (.object "com/example/grantwell/grantwell/catalog/Privilege"), (.array (.object "com/example/grantwell/grantwell/catalog/Privilege"))]
  resolved := Array.replicate 72 none
  statics := some 1 }

def pool12 : Array CpInfo := pool [(1, .methodref 2 3), (0, .class_ 4), (0, .nameAndType 5 6), (0, u "java/lang/Record"), (0, u "<init>"), (0, u "()V"), (0, .string 8), (0, u "privilege"), (0, .methodref 10 11), (0, .class_ 12), (0, .nameAndType 13 14), (0, u "java/util/Objects"), (0, u "requireNonNull"), (0, u "(Ljava/lang/Object;Ljava/lang/String;)Ljava/lang/Object;"), (21, .fieldref 37 38), (0, .class_ 39), (0, .nameAndType 8 40), (0, u "com/example/grantwell/grantwell/catalog/Action"), (0, u "Lcom/example/grantwell/grantwell/catalog/Privilege;"), (0, .fieldref 37 42), (0, .nameAndType 43 44), (0, u "column"), (0, u "Ljava/lang/String;"), (0, .methodref 37 46), (0, .nameAndType 5 47), (0, u "(Lcom/example/grantwell/grantwell/catalog/Privilege;Ljava/lang/String;)V"), (16, u "onTable"), (0, u "(Lcom/example/grantwell/grantwell/catalog/Privilege;)Lcom/example/grantwell/grantwell/catalog/Action;")] 34

def k12c0 : Code := { maxStack := 3, maxLocals := 3, code := prog_3_method_1_code, exceptionTable := #[], attributes := #[] }
def k12m0 : Method := { name := "<init>", desc := "(Lcom/example/grantwell/grantwell/catalog/Privilege;Ljava/lang/String;)V", sig := { parameters := [(.object "com/example/grantwell/grantwell/catalog/Privilege"), (.object "java/lang/String")], returnType := none }, accessFlags := 1, code := some k12c0 }
def k12c1 : Code := { maxStack := 4, maxLocals := 1, code := prog_3_method_2_code, exceptionTable := #[], attributes := #[] }
def k12m1 : Method := { name := "onTable", desc := "(Lcom/example/grantwell/grantwell/catalog/Privilege;)Lcom/example/grantwell/grantwell/catalog/Action;", sig := { parameters := [(.object "com/example/grantwell/grantwell/catalog/Privilege")], returnType := some (.object "com/example/grantwell/grantwell/catalog/Action") }, accessFlags := 9, code := some k12c1 }
/-- com/example/grantwell/grantwell/catalog/Action -/
def k12 : Class := { plain "com/example/grantwell/grantwell/catalog/Action" (some 8) with
  accessFlags := 49
  interfaces := #[]
  cf := some (fileOf pool12 37 #[] #[{ accessFlags := 1, nameIndex := 5, descriptorIndex := 47, attributes := #[] }, { accessFlags := 9, nameIndex := 64, descriptorIndex := 65, attributes := #[] }] 49 2 #[] #[{ accessFlags := 18, nameIndex := 8, descriptorIndex := 40, attributes := #[] }, { accessFlags := 18, nameIndex := 43, descriptorIndex := 44, attributes := #[] }])
  fields := #[{ name := "privilege", type := (.object "com/example/grantwell/grantwell/catalog/Privilege"), accessFlags := 18, slot := 0, constantValue := 0 }, { name := "column", type := (.object "java/lang/String"), accessFlags := 18, slot := 1, constantValue := 0 }]
  methods := #[k12m0, k12m1]
  instanceTypes := #[(.object "com/example/grantwell/grantwell/catalog/Privilege"), (.object "java/lang/String")]
  staticTypes := #[]
  resolved := Array.replicate 100 none
  statics := none }

def pool13 : Array CpInfo := pool [(2, .class_ 4), (1, u "java/lang/Object"), (0, u "<init>"), (0, u "()V"), (35, .class_ 44), (1, u "java/util/Objects"), (0, u "requireNonNull"), (48, u "(Ljava/lang/Object;Ljava/lang/String;)Ljava/lang/Object;")] 89

def k13m0 : Method := { name := "<init>", desc := "()V", sig := { parameters := [], returnType := none }, accessFlags := 2, code := none }
def k13c1 : Code := { maxStack := 3, maxLocals := 2, code := jdk_31_method_11_code, exceptionTable := #[], attributes := #[] }
def k13m1 : Method := { name := "requireNonNull", desc := "(Ljava/lang/Object;Ljava/lang/String;)Ljava/lang/Object;", sig := { parameters := [(.object "java/lang/Object"), (.object "java/lang/String")], returnType := some (.object "java/lang/Object") }, accessFlags := 9, code := some k13c1 }
/-- java/util/Objects -/
def k13 : Class := { plain "java/util/Objects" (some 0) with
  accessFlags := 49
  interfaces := #[]
  cf := some (fileOf pool13 42 #[] #[{ accessFlags := 2, nameIndex := 5, descriptorIndex := 6, attributes := #[] }, { accessFlags := 9, nameIndex := 45, descriptorIndex := 94, attributes := #[] }] 49 2 #[] #[])
  fields := #[]
  methods := #[k13m0, k13m1]
  instanceTypes := #[]
  staticTypes := #[]
  resolved := Array.replicate 184 none
  statics := none }

def pool14 : Array CpInfo := pool [(1, .methodref 2 3), (0, .class_ 4), (0, .nameAndType 5 6), (0, u "java/lang/Object"), (0, u "<init>"), (0, u "()V"), (0, .fieldref 8 9), (0, .class_ 10), (0, .nameAndType 11 12), (0, u "com/example/grantwell/grantwell/engine/Principal"), (0, u "user"), (0, u "Ljava/lang/String;"), (0, .fieldref 8 14), (0, .nameAndType 15 16), (0, u "roles"), (0, u "Ljava/util/Set;"), (0, .fieldref 8 18), (0, .nameAndType 19 20), (0, u "numbered"), (0, u "[J"), (2, .methodref 24 25), (0, .class_ 26), (0, .nameAndType 27 28), (0, u "com/example/grantwell/grantwell/catalog/Grant"), (0, u "grantee"), (0, u "()Ljava/lang/String;"), (0, .methodref 30 31), (0, .class_ 32), (0, .nameAndType 33 34), (0, u "java/lang/String"), (0, u "equals"), (0, u "(Ljava/lang/Object;)Z"), (2, u "(Ljava/lang/String;Ljava/util/Set;[J)V"), (5, u "counts"), (0, u "(ILcom/example/grantwell/grantwell/catalog/Grant;)Z")] 3

def k14c0 : Code := { maxStack := 2, maxLocals := 4, code := prog_78_method_1_code, exceptionTable := #[], attributes := #[] }
def k14m0 : Method := { name := "<init>", desc := "(Ljava/lang/String;Ljava/util/Set;[J)V", sig := { parameters := [(.object "java/lang/String"), (.object "java/util/Set"), (.array .long)], returnType := none }, accessFlags := 0, code := some k14c0 }
def k14c1 : Code := { maxStack := 5, maxLocals := 5, code := prog_78_method_4_code, exceptionTable := #[], attributes := #[] }
def k14m1 : Method := { name := "counts", desc := "(ILcom/example/grantwell/grantwell/catalog/Grant;)Z", sig := { parameters := [.int, (.object "com/example/grantwell/grantwell/catalog/Grant")], returnType := some .boolean }, accessFlags := 0, code := some k14c1 }
/-- com/example/grantwell/grantwell/engine/Principal -/
def k14 : Class := { plain "com/example/grantwell/grantwell/engine/Principal" (some 0) with
  accessFlags := 48
  interfaces := #[]
  cf := some (fileOf pool14 8 #[] #[{ accessFlags := 0, nameIndex := 5, descriptorIndex := 37, attributes := #[] }, { accessFlags := 0, nameIndex := 43, descriptorIndex := 44, attributes := #[] }] 48 2 #[] #[{ accessFlags := 18, nameIndex := 11, descriptorIndex := 12, attributes := #[] }, { accessFlags := 18, nameIndex := 15, descriptorIndex := 16, attributes := #[] }, { accessFlags := 18, nameIndex := 19, descriptorIndex := 20, attributes := #[] }])
  fields := #[{ name := "user", type := (.object "java/lang/String"), accessFlags := 18, slot := 0, constantValue := 0 }, { name := "roles", type := (.object "java/util/Set"), accessFlags := 18, slot := 1, constantValue := 0 }, { name := "numbered", type := (.array .long), accessFlags := 18, slot := 2, constantValue := 0 }]
  methods := #[k14m0, k14m1]
  instanceTypes := #[(.object "java/lang/String"), (.object "java/util/Set"), (.array .long)]
  staticTypes := #[]
  resolved := Array.replicate 48 none
  statics := none }

def pool15 : Array CpInfo := pool [(4, .class_ 6), (1, u "java/lang/Object"), (0, u "<init>"), (0, u "()V"), (5, .class_ 16), (1, u "java/lang/StringLatin1"), (104, u "$assertionsDisabled"), (0, u "Z"), (98, .class_ 223), (1, u "java/lang/StringLatin1$LinesSpliterator"), (57, u "equals"), (0, u "([B[B)Z"), (107, .class_ 391), (0, u "java/lang/StringLatin1$CharsSpliterator")] 3

def k15m0 : Method := { name := "<init>", desc := "()V", sig := { parameters := [], returnType := none }, accessFlags := 0, code := none }
def k15c1 : Code := { maxStack := 3, maxLocals := 3, code := jdk_43_method_13_code, exceptionTable := #[], attributes := #[] }
def k15m1 : Method := { name := "equals", desc := "([B[B)Z", sig := { parameters := [(.array .byte), (.array .byte)], returnType := some .boolean }, accessFlags := 9, code := some k15c1 }
/-- java/lang/StringLatin1 -/
def k15 : Class := { plain "java/lang/StringLatin1" (some 0) with
  accessFlags := 48
  interfaces := #[]
  cf := some (fileOf pool15 14 #[.nestMembers #[390, 221]] #[{ accessFlags := 0, nameIndex := 7, descriptorIndex := 8, attributes := #[] }, { accessFlags := 9, nameIndex := 281, descriptorIndex := 282, attributes := #[] }] 48 4 #[] #[{ accessFlags := 4120, nameIndex := 121, descriptorIndex := 122, attributes := #[] }])
  fields := #[{ name := "$assertionsDisabled", type := .boolean, accessFlags := 4120, slot := 0, constantValue := 0 }]
  methods := #[k15m0, k15m1]
  instanceTypes := #[]
  staticTypes := #[.boolean]
  resolved := Array.replicate 395 none
  statics := none }

def pool16 : Array CpInfo := pool [(6, .class_ 8), (1, u "java/lang/Object"), (0, u "<init>"), (0, u "()V"), (1, .class_ 14), (1, u "java/lang/StringUTF16"), (31, u "$assertionsDisabled"), (0, u "Z"), (13, u "HI_BYTE_SHIFT"), (0, u "I"), (2, u "LO_BYTE_SHIFT"), (49, .methodref 12 116), (0, .nameAndType 117 118), (0, u "compress"), (0, u "([CI[BII)I"), (3, u "([CII)[B"), (138, u "coderFromArrayLen"), (0, u "([BI)B"), (106, .class_ 371), (1, u "java/lang/StringUTF16$LinesSpliterator"), (58, u "MAX_LENGTH"), (196, .class_ 628), (0, u "java/lang/StringUTF16$CodePointsSpliterator"), (0, .class_ 630), (0, u "java/lang/StringUTF16$CharsSpliterator")] 4

def k16m0 : Method := { name := "<init>", desc := "()V", sig := { parameters := [], returnType := none }, accessFlags := 0, code := none }
def k16c1 : Code := { maxStack := 2, maxLocals := 2, code := jdk_52_method_15_code, exceptionTable := #[], attributes := #[] }
def k16m1 : Method := { name := "coderFromArrayLen", desc := "([BI)B", sig := { parameters := [(.array .byte), .int], returnType := some .byte }, accessFlags := 8, code := some k16c1 }
def k16c2 : Code := { maxStack := 5, maxLocals := 6, code := jdk_52_method_16_code, exceptionTable := #[], attributes := #[] }
def k16m2 : Method := { name := "compress", desc := "([CII)[B", sig := { parameters := [(.array .char), .int, .int], returnType := some (.array .byte) }, accessFlags := 9, code := some k16c2 }
def k16c3 : Code := { maxStack := 3, maxLocals := 7, code := jdk_52_method_21_code, exceptionTable := #[], attributes := #[] }
def k16m3 : Method := { name := "compress", desc := "([CI[BII)I", sig := { parameters := [(.array .char), .int, (.array .byte), .int, .int], returnType := some .int }, accessFlags := 9, code := some k16c3 }
/-- java/lang/StringUTF16 -/
def k16 : Class := { plain "java/lang/StringUTF16" (some 0) with
  accessFlags := 48
  interfaces := #[]
  cf := some (fileOf pool16 12 #[.nestMembers #[627, 629, 369]] #[{ accessFlags := 0, nameIndex := 9, descriptorIndex := 10, attributes := #[] }, { accessFlags := 8, nameIndex := 261, descriptorIndex := 262, attributes := #[] }, { accessFlags := 9, nameIndex := 117, descriptorIndex := 122, attributes := #[] }, { accessFlags := 9, nameIndex := 117, descriptorIndex := 118, attributes := #[] }] 48 6 #[] #[{ accessFlags := 26, nameIndex := 61, descriptorIndex := 62, attributes := #[] }, { accessFlags := 26, nameIndex := 65, descriptorIndex := 62, attributes := #[] }, { accessFlags := 24, nameIndex := 430, descriptorIndex := 62, attributes := #[] }, { accessFlags := 4120, nameIndex := 46, descriptorIndex := 47, attributes := #[] }])
  fields := #[{ name := "HI_BYTE_SHIFT", type := .int, accessFlags := 26, slot := 0, constantValue := 0 }, { name := "LO_BYTE_SHIFT", type := .int, accessFlags := 26, slot := 1, constantValue := 0 }, { name := "MAX_LENGTH", type := .int, accessFlags := 24, slot := 2, constantValue := 0 }, { name := "$assertionsDisabled", type := .boolean, accessFlags := 4120, slot := 3, constantValue := 0 }]
  methods := #[k16m0, k16m1, k16m2, k16m3]
  instanceTypes := #[]
  staticTypes := #[.int, .int, .int, .boolean]
  resolved := Array.replicate 635 none
  statics := none }

def pool17 : Array CpInfo := pool [(2, .class_ 4), (1, u "java/lang/Object"), (0, u "<init>"), (0, u "()V"), (17, .class_ 26), (1, u "jdk/internal/util/Preconditions"), (28, .class_ 56), (0, u "jdk/internal/util/Preconditions$4"), (57, .class_ 115), (0, u "jdk/internal/util/Preconditions$1"), (7, u "SIOOBE_FORMATTER"), (0, u "Ljava/util/function/BiFunction;"), (0, .class_ 126), (0, u "jdk/internal/util/Preconditions$2"), (3, u "AIOOBE_FORMATTER"), (0, .class_ 132), (0, u "jdk/internal/util/Preconditions$3"), (3, u "IOOBE_FORMATTER")] 57

def k17m0 : Method := { name := "<init>", desc := "()V", sig := { parameters := [], returnType := none }, accessFlags := 1, code := none }
/-- jdk/internal/util/Preconditions -/
def k17 : Class := { plain "jdk/internal/util/Preconditions" (some 0) with
  accessFlags := 33
  interfaces := #[]
  cf := some (fileOf pool17 24 #[.nestMembers #[55, 131, 125, 114]] #[{ accessFlags := 1, nameIndex := 5, descriptorIndex := 6, attributes := #[] }] 33 2 #[] #[{ accessFlags := 25, nameIndex := 123, descriptorIndex := 124, attributes := #[] }, { accessFlags := 25, nameIndex := 130, descriptorIndex := 124, attributes := #[] }, { accessFlags := 25, nameIndex := 136, descriptorIndex := 124, attributes := #[] }])
  fields := #[{ name := "SIOOBE_FORMATTER", type := (.object "java/util/function/BiFunction"), accessFlags := 25, slot := 0, constantValue := 0 }, { name := "AIOOBE_FORMATTER", type := (.object "java/util/function/BiFunction"), accessFlags := 25, slot := 1, constantValue := 0 }, { name := "IOOBE_FORMATTER", type := (.object "java/util/function/BiFunction"), accessFlags := 25, slot := 2, constantValue := 0 }]
  methods := #[k17m0]
  instanceTypes := #[]
  staticTypes := #[(.object "java/util/function/BiFunction"), (.object "java/util/function/BiFunction"), (.object "java/util/function/BiFunction")]
  resolved := Array.replicate 194 none
  statics := some 2 }

def pool18 : Array CpInfo := pool [(9, u "<init>"), (6, .class_ 18), (1, u "java/lang/Object"), (0, u "()V"), (1, .class_ 23), (1, u "jdk/internal/util/ArraysSupport"), (0, u "LOG2_ARRAY_LONG_INDEX_SCALE"), (0, u "I"), (2, u "U"), (0, u "Ljdk/internal/misc/Unsafe;"), (8, u "BIG_ENDIAN"), (0, u "Z"), (8, u "LOG2_BYTE_BIT_SIZE"), (4, u "LOG2_ARRAY_INT_INDEX_SCALE"), (54, u "JLA"), (0, u "Ljdk/internal/access/JavaLangAccess;"), (11, u "LOG2_ARRAY_BOOLEAN_INDEX_SCALE"), (9, u "LOG2_ARRAY_BYTE_INDEX_SCALE"), (5, u "LOG2_ARRAY_CHAR_INDEX_SCALE"), (5, u "LOG2_ARRAY_SHORT_INDEX_SCALE"), (18, u "LOG2_ARRAY_FLOAT_INDEX_SCALE"), (24, u "LOG2_ARRAY_DOUBLE_INDEX_SCALE"), (89, u "T_BOOLEAN"), (2, u "T_CHAR"), (1, u "T_FLOAT"), (1, u "T_DOUBLE"), (1, u "T_BYTE"), (1, u "T_SHORT"), (1, u "T_INT"), (1, u "T_LONG"), (1, u "SOFT_MAX_ARRAY_LENGTH")] 83

def k18m0 : Method := { name := "<init>", desc := "()V", sig := { parameters := [], returnType := none }, accessFlags := 2, code := none }
/-- jdk/internal/util/ArraysSupport -/
def k18 : Class := { plain "jdk/internal/util/ArraysSupport" (some 0) with
  accessFlags := 33
  interfaces := #[]
  cf := some (fileOf pool18 21 #[] #[{ accessFlags := 2, nameIndex := 9, descriptorIndex := 19, attributes := #[] }] 33 16 #[] #[{ accessFlags := 24, nameIndex := 28, descriptorIndex := 29, attributes := #[] }, { accessFlags := 26, nameIndex := 38, descriptorIndex := 39, attributes := #[] }, { accessFlags := 25, nameIndex := 121, descriptorIndex := 25, attributes := #[] }, { accessFlags := 25, nameIndex := 131, descriptorIndex := 25, attributes := #[] }, { accessFlags := 25, nameIndex := 137, descriptorIndex := 25, attributes := #[] }, { accessFlags := 25, nameIndex := 143, descriptorIndex := 25, attributes := #[] }, { accessFlags := 25, nameIndex := 53, descriptorIndex := 25, attributes := #[] }, { accessFlags := 25, nameIndex := 24, descriptorIndex := 25, attributes := #[] }, { accessFlags := 25, nameIndex := 162, descriptorIndex := 25, attributes := #[] }, { accessFlags := 25, nameIndex := 187, descriptorIndex := 25, attributes := #[] }, { accessFlags := 26, nameIndex := 48, descriptorIndex := 25, attributes := #[] }, { accessFlags := 25, nameIndex := 277, descriptorIndex := 25, attributes := #[] }, { accessFlags := 25, nameIndex := 280, descriptorIndex := 25, attributes := #[] }, { accessFlags := 25, nameIndex := 282, descriptorIndex := 25, attributes := #[] }, { accessFlags := 25, nameIndex := 284, descriptorIndex := 25, attributes := #[] }, { accessFlags := 25, nameIndex := 286, descriptorIndex := 25, attributes := #[] }, { accessFlags := 25, nameIndex := 288, descriptorIndex := 25, attributes := #[] }, { accessFlags := 25, nameIndex := 290, descriptorIndex := 25, attributes := #[] }, { accessFlags := 25, nameIndex := 292, descriptorIndex := 25, attributes := #[] }, { accessFlags := 26, nameIndex := 108, descriptorIndex := 109, attributes := #[] }, { accessFlags := 25, nameIndex := 294, descriptorIndex := 25, attributes := #[] }])
  fields := #[{ name := "U", type := (.object "jdk/internal/misc/Unsafe"), accessFlags := 24, slot := 0, constantValue := 0 }, { name := "BIG_ENDIAN", type := .boolean, accessFlags := 26, slot := 1, constantValue := 0 }, { name := "LOG2_ARRAY_BOOLEAN_INDEX_SCALE", type := .int, accessFlags := 25, slot := 2, constantValue := 0 }, { name := "LOG2_ARRAY_BYTE_INDEX_SCALE", type := .int, accessFlags := 25, slot := 3, constantValue := 0 }, { name := "LOG2_ARRAY_CHAR_INDEX_SCALE", type := .int, accessFlags := 25, slot := 4, constantValue := 0 }, { name := "LOG2_ARRAY_SHORT_INDEX_SCALE", type := .int, accessFlags := 25, slot := 5, constantValue := 0 }, { name := "LOG2_ARRAY_INT_INDEX_SCALE", type := .int, accessFlags := 25, slot := 6, constantValue := 0 }, { name := "LOG2_ARRAY_LONG_INDEX_SCALE", type := .int, accessFlags := 25, slot := 7, constantValue := 0 }, { name := "LOG2_ARRAY_FLOAT_INDEX_SCALE", type := .int, accessFlags := 25, slot := 8, constantValue := 0 }, { name := "LOG2_ARRAY_DOUBLE_INDEX_SCALE", type := .int, accessFlags := 25, slot := 9, constantValue := 0 }, { name := "LOG2_BYTE_BIT_SIZE", type := .int, accessFlags := 26, slot := 10, constantValue := 0 }, { name := "T_BOOLEAN", type := .int, accessFlags := 25, slot := 11, constantValue := 0 }, { name := "T_CHAR", type := .int, accessFlags := 25, slot := 12, constantValue := 0 }, { name := "T_FLOAT", type := .int, accessFlags := 25, slot := 13, constantValue := 0 }, { name := "T_DOUBLE", type := .int, accessFlags := 25, slot := 14, constantValue := 0 }, { name := "T_BYTE", type := .int, accessFlags := 25, slot := 15, constantValue := 0 }, { name := "T_SHORT", type := .int, accessFlags := 25, slot := 16, constantValue := 0 }, { name := "T_INT", type := .int, accessFlags := 25, slot := 17, constantValue := 0 }, { name := "T_LONG", type := .int, accessFlags := 25, slot := 18, constantValue := 0 }, { name := "JLA", type := (.object "jdk/internal/access/JavaLangAccess"), accessFlags := 26, slot := 19, constantValue := 0 }, { name := "SOFT_MAX_ARRAY_LENGTH", type := .int, accessFlags := 25, slot := 20, constantValue := 0 }]
  methods := #[k18m0]
  instanceTypes := #[]
  staticTypes := #[(.object "jdk/internal/misc/Unsafe"), .boolean, .int, .int, .int, .int, .int, .int, .int, .int, .int, .int, .int, .int, .int, .int, .int, .int, .int, (.object "jdk/internal/access/JavaLangAccess"), .int]
  resolved := Array.replicate 378 none
  statics := none }

def pool19 : Array CpInfo := pool [(1, u "java/lang/Cloneable"), (0, .class_ 1), (0, u "java/lang/Object"), (0, .class_ 3)] 3

/-- java/lang/Cloneable -/
def k19 : Class := { plain "java/lang/Cloneable" (some 0) with
  accessFlags := 1537
  interfaces := #[]
  cf := some (fileOf pool19 2 #[] #[] 1537 4 #[] #[])
  fields := #[]
  methods := #[]
  instanceTypes := #[]
  staticTypes := #[]
  resolved := Array.replicate 8 none
  statics := none }

/-- the primitive byte -/
def k20 : Class := { plain "byte" none with kind := .primitive 'B', accessFlags := 0x411 }
/-- [B -/
def k21 : Class := { plain "[B" (some 0) with kind := .array 20 .byte, interfaces := #[19, 2], accessFlags := 1041 }

/-- the primitive char -/
def k22 : Class := { plain "char" none with kind := .primitive 'C', accessFlags := 0x411 }
/-- [C -/
def k23 : Class := { plain "[C" (some 0) with kind := .array 22 .char, interfaces := #[19, 2], accessFlags := 1041 }

/-- the primitive int -/
def k24 : Class := { plain "int" none with kind := .primitive 'I', accessFlags := 0x411 }
/-- [I -/
def k25 : Class := { plain "[I" (some 0) with kind := .array 24 .int, interfaces := #[19, 2], accessFlags := 1041 }

/-- the primitive long -/
def k26 : Class := { plain "long" none with kind := .primitive 'J', accessFlags := 0x411 }
/-- [J -/
def k27 : Class := { plain "[J" (some 0) with kind := .array 26 .long, interfaces := #[19, 2], accessFlags := 1041 }

def heap : Heap := #[{ cls := 7, slots := #[.long 0, .int 1, .null, .int 0, .null, .int 0, .int 0], vm := .statics 7 },
  { cls := 11, slots := #[.ref 3, .null, .null, .null, .null, .null, .null], vm := .statics 11 },
  { cls := 17, slots := #[.null, .null, .null], vm := .statics 17 },
  { cls := 11, slots := #[.null, .int 0, .int 0, .int 1], vm := .none }]
def classes : Array Class := #[k0, k1, k2, k3, k4, k5, k6, k7, k8, k9, k10, k11, k12, k13, k14, k15, k16, k17, k18, k19, k20, k21, k22, k23, k24, k25, k26, k27]
def interned : List (Array UInt16 × Addr) := []
def slotsUsed : Nat := 21
def theMethod : MethodId := ⟨1, 2⟩
def args0 : Array Value := #[.int 5, .int 0, .long 1, .long 2, .int 0, .int 0]
def aboutOver (below : List Frame) : State where
  vm := { classes := classes, interned := interned.toArray }
  heap := heap
  slotsUsed := slotsUsed
  threads := #[{ frames := .invoking theMethod args0 :: below }]
def below0 : List Frame := [.native { method := ⟨0, 0⟩, args := #[] }]
def about1 : State := aboutOver below0
def p0 : Program := .bare "" "" ""
def e0 : Env := launch0.env 0 0 0
theorem w_frames : about1.frames = Frame.invoking theMethod args0 :: below0 := rfl
set_option maxRecDepth 65536 in
theorem w_args : argsFit about1.vm theMethod args0 = true := by decide +kernel
set_option maxRecDepth 65536 in
theorem w_heap : heapFits about1 = true := by decide +kernel
set_option maxRecDepth 65536 in
theorem w_runnable : about1.curStatus? = some .runnable := by decide +kernel
set_option maxRecDepth 65536 in
theorem w_alone : about1.alone = true := by decide +kernel
set_option maxRecDepth 65536 in
theorem w_named : about1.methodNamed? x = some theMethod := by decide +kernel
set_option maxRecDepth 65536 in
theorem w_hears : about1.hears theMethod below0 = true := by decide +kernel
set_option maxRecDepth 65536 in
theorem w_ripe : about1.ripe theMethod args0 below0 = true := by decide +kernel
theorem w_running : about1.status = .running := rfl
set_option maxRecDepth 65536 in
theorem w_room : about1.hasRoom e0.platform room_1 = true :=
  launch0.hasRoom_least _ room_1 (by decide +kernel) (by decide +kernel) (by decide +kernel) (by decide +kernel) (by decide +kernel) (by decide +kernel)
theorem allAtoms_all (ts : List Jvm.Cond) (a : Array Jvm.Value) (st : Jvm.State) : (allAtoms ts).before a st = ts.all (fun c => c.before a st) := by
  induction ts with
  | nil => rfl
  | cons c t ih =>
    show (Jvm.Cond.and c (allAtoms t)).before a st = _
    rw [Jvm.Cond.before_and, ih, List.all_cons]
def words1 : List Jvm.Cond := Jvm.Cond.code x code maxLocals ret :: tables_1
/-- a 'code' word, met by the world's own term for the bytes: nothing is compared byte by byte -/
theorem code_word {y : MethodName} {bytes : ByteArray} {mx : Nat} {rt : Option FieldType} {a : Array Value} {s : State} {m : MethodId} {meth : Method} {c : Code} (h1 : s.methodNamed? y = some m) (h2 : s.vm.method? m = some meth) (h3 : meth.code = some c) (h4 : c.code = bytes)
    (h5 : (c.maxLocals == mx && c.exceptionTable.isEmpty && decide (c.maxStack ≤ mostOperands) && decide (meth.sig.returnType = rt) && !meth.locks && decide (parseMethodDescriptor y.desc = some meth.sig)) = true) : (Jvm.Cond.code y bytes mx rt).before a s = true := by
  simp only [Bool.and_eq_true, beq_iff_eq, Bool.not_eq_true', decide_eq_true_eq] at h5
  obtain ⟨⟨⟨⟨⟨g1, g2⟩, g3⟩, g4⟩, g5⟩, g6⟩ := h5
  simp [Cond.before, Cond.holds, Cond.value, h1, h2, h3, h4, g1, g2, g3, g4, g5, g6]
def isCode : Jvm.Cond → Bool
  | .code _ _ _ _ => true
  | _ => false
theorem all_split {L : List Jvm.Cond} {P : Jvm.Cond → Bool} (h1 : L.all (fun c => isCode c || P c) = true) (h2 : ∀ c ∈ L.filter isCode, P c = true) : L.all P = true := by
  refine List.all_eq_true.mpr fun c hc => ?_
  have h := List.all_eq_true.mp h1 c hc
  rcases Bool.eq_false_or_eq_true (isCode c) with hi | hi
  · exact h2 c (List.mem_filter.mpr ⟨hc, hi⟩)
  · simpa [hi] using h
set_option maxRecDepth 65536 in
theorem w_c0 : (Jvm.Cond.code x code maxLocals ret).before args0 about1 = true := code_word (m := ⟨1, 2⟩) (meth := k1m2) (c := k1c2) (by decide +kernel) rfl rfl rfl (by decide +kernel)
set_option maxRecDepth 65536 in
theorem w_c1 : (Jvm.Cond.code ({ cls := "com/example/grantwell/grantwell/engine/PrincipalCountsPinLaw", name := "str", desc := "(ICC)Ljava/lang/String;" } : Jvm.MethodName) method_2_code (3 : Nat) (Option.some (Jvm.ClassFile.FieldType.object "java/lang/String"))).before args0 about1 = true := code_word (m := ⟨1, 1⟩) (meth := k1m1) (c := k1c1) (by decide +kernel) rfl rfl rfl (by decide +kernel)
set_option maxRecDepth 65536 in
theorem w_c2 : (Jvm.Cond.code ({ cls := "java/lang/String", name := "<init>", desc := "([C)V" } : Jvm.MethodName) jdk_42_method_3_code (2 : Nat) (Option.none : Option Jvm.ClassFile.FieldType)).before args0 about1 = true := code_word (m := ⟨7, 1⟩) (meth := k7m1) (c := k7c1) (by decide +kernel) rfl rfl rfl (by decide +kernel)
set_option maxRecDepth 65536 in
theorem w_c3 : (Jvm.Cond.code ({ cls := "java/lang/String", name := "<init>", desc := "([CIILjava/lang/Void;)V" } : Jvm.MethodName) jdk_42_method_149_code (6 : Nat) (Option.none : Option Jvm.ClassFile.FieldType)).before args0 about1 = true := code_word (m := ⟨7, 3⟩) (meth := k7m3) (c := k7c3) (by decide +kernel) rfl rfl rfl (by decide +kernel)
set_option maxRecDepth 65536 in
theorem w_c4 : (Jvm.Cond.code ({ cls := "java/lang/Object", name := "<init>", desc := "()V" } : Jvm.MethodName) object_method_1_code (1 : Nat) (Option.none : Option Jvm.ClassFile.FieldType)).before args0 about1 = true := code_word (m := ⟨0, 0⟩) (meth := k0m0) (c := k0c0) (by decide +kernel) rfl rfl rfl (by decide +kernel)
set_option maxRecDepth 65536 in
theorem w_c5 : (Jvm.Cond.code ({ cls := "com/example/grantwell/grantwell/catalog/Action", name := "onTable", desc := "(Lcom/example/grantwell/grantwell/catalog/Privilege;)Lcom/example/grantwell/grantwell/catalog/Action;" } : Jvm.MethodName) prog_3_method_2_code (1 : Nat) (Option.some (Jvm.ClassFile.FieldType.object "com/example/grantwell/grantwell/catalog/Action"))).before args0 about1 = true := code_word (m := ⟨12, 1⟩) (meth := k12m1) (c := k12c1) (by decide +kernel) rfl rfl rfl (by decide +kernel)
set_option maxRecDepth 65536 in
theorem w_c6 : (Jvm.Cond.code ({ cls := "com/example/grantwell/grantwell/catalog/Action", name := "<init>", desc := "(Lcom/example/grantwell/grantwell/catalog/Privilege;Ljava/lang/String;)V" } : Jvm.MethodName) prog_3_method_1_code (3 : Nat) (Option.none : Option Jvm.ClassFile.FieldType)).before args0 about1 = true := code_word (m := ⟨12, 0⟩) (meth := k12m0) (c := k12c0) (by decide +kernel) rfl rfl rfl (by decide +kernel)
set_option maxRecDepth 65536 in
theorem w_c7 : (Jvm.Cond.code ({ cls := "java/lang/Record", name := "<init>", desc := "()V" } : Jvm.MethodName) jdk_30_method_1_code (1 : Nat) (Option.none : Option Jvm.ClassFile.FieldType)).before args0 about1 = true := code_word (m := ⟨8, 0⟩) (meth := k8m0) (c := k8c0) (by decide +kernel) rfl rfl rfl (by decide +kernel)
set_option maxRecDepth 65536 in
theorem w_c8 : (Jvm.Cond.code ({ cls := "java/util/Objects", name := "requireNonNull", desc := "(Ljava/lang/Object;Ljava/lang/String;)Ljava/lang/Object;" } : Jvm.MethodName) jdk_31_method_11_code (2 : Nat) (Option.some (Jvm.ClassFile.FieldType.object "java/lang/Object"))).before args0 about1 = true := code_word (m := ⟨13, 1⟩) (meth := k13m1) (c := k13c1) (by decide +kernel) rfl rfl rfl (by decide +kernel)
set_option maxRecDepth 65536 in
theorem w_c9 : (Jvm.Cond.code ({ cls := "com/example/grantwell/grantwell/catalog/Grant", name := "<init>", desc := "(Ljava/lang/String;Ljava/lang/String;Lcom/example/grantwell/grantwell/catalog/Action;Z)V" } : Jvm.MethodName) prog_40_method_1_code (5 : Nat) (Option.none : Option Jvm.ClassFile.FieldType)).before args0 about1 = true := code_word (m := ⟨9, 0⟩) (meth := k9m0) (c := k9c0) (by decide +kernel) rfl rfl rfl (by decide +kernel)
set_option maxRecDepth 65536 in
theorem w_c10 : (Jvm.Cond.code ({ cls := "com/example/grantwell/grantwell/engine/Principal", name := "<init>", desc := "(Ljava/lang/String;Ljava/util/Set;[J)V" } : Jvm.MethodName) prog_78_method_1_code (4 : Nat) (Option.none : Option Jvm.ClassFile.FieldType)).before args0 about1 = true := code_word (m := ⟨14, 0⟩) (meth := k14m0) (c := k14c0) (by decide +kernel) rfl rfl rfl (by decide +kernel)
set_option maxRecDepth 65536 in
theorem w_c11 : (Jvm.Cond.code ({ cls := "com/example/grantwell/grantwell/engine/Principal", name := "counts", desc := "(ILcom/example/grantwell/grantwell/catalog/Grant;)Z" } : Jvm.MethodName) prog_78_method_4_code (5 : Nat) (Option.some Jvm.ClassFile.FieldType.boolean)).before args0 about1 = true := code_word (m := ⟨14, 1⟩) (meth := k14m1) (c := k14c1) (by decide +kernel) rfl rfl rfl (by decide +kernel)
set_option maxRecDepth 65536 in
theorem w_c12 : (Jvm.Cond.code ({ cls := "com/example/grantwell/grantwell/catalog/Grant", name := "grantee", desc := "()Ljava/lang/String;" } : Jvm.MethodName) prog_40_method_6_code (1 : Nat) (Option.some (Jvm.ClassFile.FieldType.object "java/lang/String"))).before args0 about1 = true := code_word (m := ⟨9, 1⟩) (meth := k9m1) (c := k9c1) (by decide +kernel) rfl rfl rfl (by decide +kernel)
set_option maxRecDepth 65536 in
theorem w_c13 : (Jvm.Cond.code ({ cls := "java/lang/String", name := "equals", desc := "(Ljava/lang/Object;)Z" } : Jvm.MethodName) jdk_42_method_66_code (3 : Nat) (Option.some Jvm.ClassFile.FieldType.boolean)).before args0 about1 = true := code_word (m := ⟨7, 2⟩) (meth := k7m2) (c := k7c2) (by decide +kernel) rfl rfl rfl (by decide +kernel)
set_option maxRecDepth 65536 in
theorem w_c14 : (Jvm.Cond.code ({ cls := "java/lang/StringLatin1", name := "equals", desc := "([B[B)Z" } : Jvm.MethodName) jdk_43_method_13_code (3 : Nat) (Option.some Jvm.ClassFile.FieldType.boolean)).before args0 about1 = true := code_word (m := ⟨15, 1⟩) (meth := k15m1) (c := k15c1) (by decide +kernel) rfl rfl rfl (by decide +kernel)
set_option maxRecDepth 65536 in
theorem w_c15 : (Jvm.Cond.code ({ cls := "java/lang/StringUTF16", name := "compress", desc := "([CII)[B" } : Jvm.MethodName) jdk_52_method_16_code (6 : Nat) (Option.some (Jvm.ClassFile.FieldType.array Jvm.ClassFile.FieldType.byte))).before args0 about1 = true := code_word (m := ⟨16, 2⟩) (meth := k16m2) (c := k16c2) (by decide +kernel) rfl rfl rfl (by decide +kernel)
set_option maxRecDepth 65536 in
theorem w_c16 : (Jvm.Cond.code ({ cls := "java/lang/StringUTF16", name := "compress", desc := "([CI[BII)I" } : Jvm.MethodName) jdk_52_method_21_code (7 : Nat) (Option.some Jvm.ClassFile.FieldType.int)).before args0 about1 = true := code_word (m := ⟨16, 3⟩) (meth := k16m3) (c := k16c3) (by decide +kernel) rfl rfl rfl (by decide +kernel)
set_option maxRecDepth 65536 in
theorem w_c17 : (Jvm.Cond.code ({ cls := "java/lang/StringUTF16", name := "coderFromArrayLen", desc := "([BI)B" } : Jvm.MethodName) jdk_52_method_15_code (2 : Nat) (Option.some Jvm.ClassFile.FieldType.byte)).before args0 about1 = true := code_word (m := ⟨16, 1⟩) (meth := k16m1) (c := k16c1) (by decide +kernel) rfl rfl rfl (by decide +kernel)
def codes1 : List Jvm.Cond := [Jvm.Cond.code x code maxLocals ret, Jvm.Cond.code ({ cls := "com/example/grantwell/grantwell/engine/PrincipalCountsPinLaw", name := "str", desc := "(ICC)Ljava/lang/String;" } : Jvm.MethodName) method_2_code (3 : Nat) (Option.some (Jvm.ClassFile.FieldType.object "java/lang/String")), Jvm.Cond.code ({ cls := "java/lang/String", name := "<init>", desc := "([C)V" } : Jvm.MethodName) jdk_42_method_3_code (2 : Nat) (Option.none : Option Jvm.ClassFile.FieldType), Jvm.Cond.code ({ cls := "java/lang/String", name := "<init>", desc := "([CIILjava/lang/Void;)V" } : Jvm.MethodName) jdk_42_method_149_code (6 : Nat) (Option.none : Option Jvm.ClassFile.FieldType), Jvm.Cond.code ({ cls := "java/lang/Object", name := "<init>", desc := "()V" } : Jvm.MethodName) object_method_1_code (1 : Nat) (Option.none : Option Jvm.ClassFile.FieldType), Jvm.Cond.code ({ cls := "com/example/grantwell/grantwell/catalog/Action", name := "onTable", desc := "(Lcom/example/grantwell/grantwell/catalog/Privilege;)Lcom/example/grantwell/grantwell/catalog/Action;" } : Jvm.MethodName) prog_3_method_2_code (1 : Nat) (Option.some (Jvm.ClassFile.FieldType.object "com/example/grantwell/grantwell/catalog/Action")), Jvm.Cond.code ({ cls := "com/example/grantwell/grantwell/catalog/Action", name := "<init>", desc := "(Lcom/example/grantwell/grantwell/catalog/Privilege;Ljava/lang/String;)V" } : Jvm.MethodName) prog_3_method_1_code (3 : Nat) (Option.none : Option Jvm.ClassFile.FieldType), Jvm.Cond.code ({ cls := "java/lang/Record", name := "<init>", desc := "()V" } : Jvm.MethodName) jdk_30_method_1_code (1 : Nat) (Option.none : Option Jvm.ClassFile.FieldType), Jvm.Cond.code ({ cls := "java/util/Objects", name := "requireNonNull", desc := "(Ljava/lang/Object;Ljava/lang/String;)Ljava/lang/Object;" } : Jvm.MethodName) jdk_31_method_11_code (2 : Nat) (Option.some (Jvm.ClassFile.FieldType.object "java/lang/Object")), Jvm.Cond.code ({ cls := "com/example/grantwell/grantwell/catalog/Grant", name := "<init>", desc := "(Ljava/lang/String;Ljava/lang/String;Lcom/example/grantwell/grantwell/catalog/Action;Z)V" } : Jvm.MethodName) prog_40_method_1_code (5 : Nat) (Option.none : Option Jvm.ClassFile.FieldType), Jvm.Cond.code ({ cls := "com/example/grantwell/grantwell/engine/Principal", name := "<init>", desc := "(Ljava/lang/String;Ljava/util/Set;[J)V" } : Jvm.MethodName) prog_78_method_1_code (4 : Nat) (Option.none : Option Jvm.ClassFile.FieldType), Jvm.Cond.code ({ cls := "com/example/grantwell/grantwell/engine/Principal", name := "counts", desc := "(ILcom/example/grantwell/grantwell/catalog/Grant;)Z" } : Jvm.MethodName) prog_78_method_4_code (5 : Nat) (Option.some Jvm.ClassFile.FieldType.boolean), Jvm.Cond.code ({ cls := "com/example/grantwell/grantwell/catalog/Grant", name := "grantee", desc := "()Ljava/lang/String;" } : Jvm.MethodName) prog_40_method_6_code (1 : Nat) (Option.some (Jvm.ClassFile.FieldType.object "java/lang/String")), Jvm.Cond.code ({ cls := "java/lang/String", name := "equals", desc := "(Ljava/lang/Object;)Z" } : Jvm.MethodName) jdk_42_method_66_code (3 : Nat) (Option.some Jvm.ClassFile.FieldType.boolean), Jvm.Cond.code ({ cls := "java/lang/StringLatin1", name := "equals", desc := "([B[B)Z" } : Jvm.MethodName) jdk_43_method_13_code (3 : Nat) (Option.some Jvm.ClassFile.FieldType.boolean), Jvm.Cond.code ({ cls := "java/lang/StringUTF16", name := "compress", desc := "([CII)[B" } : Jvm.MethodName) jdk_52_method_16_code (6 : Nat) (Option.some (Jvm.ClassFile.FieldType.array Jvm.ClassFile.FieldType.byte)), Jvm.Cond.code ({ cls := "java/lang/StringUTF16", name := "compress", desc := "([CI[BII)I" } : Jvm.MethodName) jdk_52_method_21_code (7 : Nat) (Option.some Jvm.ClassFile.FieldType.int), Jvm.Cond.code ({ cls := "java/lang/StringUTF16", name := "coderFromArrayLen", desc := "([BI)B" } : Jvm.MethodName) jdk_52_method_15_code (2 : Nat) (Option.some Jvm.ClassFile.FieldType.byte)]
set_option maxRecDepth 65536 in
theorem codes_eq : words1.filter isCode = codes1 := rfl
theorem w_codes : ∀ c ∈ words1.filter isCode, c.before args0 about1 = true := by
  rw [codes_eq]
  intro c hc
  simp only [codes1, List.mem_cons, List.not_mem_nil, or_false] at hc
  rcases hc with rfl | rfl | rfl | rfl | rfl | rfl | rfl | rfl | rfl | rfl | rfl | rfl | rfl | rfl | rfl | rfl | rfl | rfl
  · exact w_c0
  · exact w_c1
  · exact w_c2
  · exact w_c3
  · exact w_c4
  · exact w_c5
  · exact w_c6
  · exact w_c7
  · exact w_c8
  · exact w_c9
  · exact w_c10
  · exact w_c11
  · exact w_c12
  · exact w_c13
  · exact w_c14
  · exact w_c15
  · exact w_c16
  · exact w_c17
set_option maxRecDepth 65536 in
theorem w_t1 : (words1.take 24).all (fun c => isCode c || c.before args0 about1) = true := by decide +kernel
set_option maxRecDepth 65536 in
theorem w_t2 : ((words1.drop 24).take 24).all (fun c => isCode c || c.before args0 about1) = true := by decide +kernel
set_option maxRecDepth 65536 in
theorem w_t3 : (((words1.drop 24).drop 24).take 24).all (fun c => isCode c || c.before args0 about1) = true := by decide +kernel
set_option maxRecDepth 65536 in
theorem w_t4 : ((((words1.drop 24).drop 24).drop 24).take 24).all (fun c => isCode c || c.before args0 about1) = true := by decide +kernel
set_option maxRecDepth 65536 in
theorem w_t5 : ((((words1.drop 24).drop 24).drop 24).drop 24).all (fun c => isCode c || c.before args0 about1) = true := by decide +kernel
theorem w_tables : (allAtoms (Jvm.Cond.code x code maxLocals ret :: tables_1)).before args0 about1 = true := by
  rw [allAtoms_all]
  show words1.all (fun c => c.before args0 about1) = true
  refine all_split ?_ w_codes
  rw [← List.take_append_drop 24 words1, List.all_append, w_t1, ← List.take_append_drop 24 (words1.drop 24), List.all_append, w_t2, ← List.take_append_drop 24 ((words1.drop 24).drop 24), List.all_append, w_t3, ← List.take_append_drop 24 (((words1.drop 24).drop 24).drop 24), List.all_append, w_t4, w_t5]
  rfl
set_option maxRecDepth 65536 in
theorem w_rest : rest_1_c.before args0 about1 = true := by decide +kernel
set_option maxRecDepth 65536 in
theorem w_case : (Jvm.Cond.and given_1 narrow_1).before args0 about1 = true := by decide +kernel
set_option maxRecDepth 65536 in
theorem w_consts : constsHeld consts_1 about1 := Jvm.Lit.constsHeldB_iff.mp (by decide +kernel)
theorem w_applies : (headSpec (Jvm.Cond.code x code maxLocals ret :: tables_1) room_1).applies x e0.platform about1 = true :=
  (Spec.applies_iff w_frames).mpr ⟨w_running, w_runnable, w_alone, w_named, w_hears, w_ripe, w_room, w_tables⟩
theorem atStart : AtStart classFile x code maxLocals ret World_1 tables_1 room_1 Calls_1 rest_1 Pre_1 launch0 p0 e0 about1 theMethod args0 below0 :=
  ⟨lists_1, trivial, launch0.admits_env _ _ _, launch0.least_env, fairChoices_fair.cas, fairChoices_fair.clock, w_frames, w_args, w_heap, w_applies, ⟨w_consts, trivial⟩, w_rest, w_case⟩
end start1
theorem witness_1 : WitnessClaimed_1 := ⟨start1.p0, start1.e0, start1.about1, start1.theMethod, start1.args0, start1.below0, start1.atStart⟩
end Jvm.Pilot.@@N@@
