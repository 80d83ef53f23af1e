import JvmDerived
import JvmDerived.Pilot.@@N@@Statement
import JvmDerived.Pilot.@@N@@Code
set_option maxRecDepth 65536
set_option maxHeartbeats 40000000
set_option linter.unusedVariables false
set_option linter.unusedSimpArgs false
namespace Jvm.RoadKit
open Sem ClassFile Op Lib Jvm.Stand Jvm.Free Jvm.LawKit
section New
variable {p : Program} {l : Launch} {e : Env} {R : Room} {s : State} {m : MethodId} {args : Array Value} {below : List Frame} {meth : Method} {c : Code} {T : State} {locs : List Loc} {cells slots : Nat}
theorem retI (X : Stand p l e R s m args below meth c T locs cells slots) (hx : p.tables.exec = Jvm.exec) {pc : Nat} {Ls : Array Slot} {z : Int32} {rest : List Value} (hret : meth.sig.returnType = some .int) (hd : decode c.code pc = .ok (.ireturn, 1)) {fs : List Frame}
    (hl : ∀ (f : JFrame) (acts : List Action), f.method = m → f.locked = none → f.entered = [] → (doReturn e (T.setTop f) acts (some (.int z))).1 = T.setFrames fs) : Steps p.tables e below (T.setTop (mkF m pc Ls (.int z :: rest))) (T.setFrames fs) :=
  retOut X hx hret rfl (Or.inl ⟨rfl, Or.inl rfl, z, rfl⟩) hd hl
end New
end Jvm.RoadKit
namespace Jvm.Pilot.@@N@@
open Jvm Jvm.ClassFile Sem Op Lib Jvm.Free Jvm.Stand Jvm.LawKit Jvm.RoadKit Bundle Jvm.Pilot.@@N@@.Jvm.D
abbrev HW (a0 : Array Value) (Z : State) : Prop := ∀ d ∈ tables_1, d.before a0 Z = true
theorem wk {r W k : Nat} (h0 : r = 0) (h : k = W) : 2 * r + k ≤ W := by omega
theorem nvS {r : Option FieldType} {ty : FieldType} {v : Option Value} (hret : r = some ty) : r = none → v = none := fun h => by rw [hret] at h; cases h
abbrev vi (x : Int32) : Slot := .val (.int x)
abbrev vr (a : Addr) : Slot := .val (.ref a)
section OwnKit
variable {p : Program} {l : Launch} {e : Env} {R : Room} {s s' : State} {m : MethodId} {args : Array Value} {below : List Frame} {meth : Method} {c : Code} {T T' : State} {locs : List Loc} {cells slots : Nat} {g g' : JFrame} {Z : State} {a0 : Array Value} {h : Heap} {Q : Option Value → Heap → List Loc → Prop} {k n : Nat} {E : State → Outcome → State → List Loc → Nat → Nat → Prop}
/-- the run goes on from here to its end, and the end is as Q and the frame E say -/
def Fin (E : State → Outcome → State → List Loc → Nat → Nat → Prop) (p : Program) (e : Env) (below : List Frame) (s : State) (Q : Option Value → Heap → List Loc → Prop) (k n : Nat) (T : State) (g : JFrame) : Prop :=
  ∃ (s₂ : State) (o : Outcome), Steps p.tables e below (T.setTop g) s₂ ∧ s₂.status = .running ∧ Ended s₂ below o ∧ ∃ v L, o = .returned v ∧ Q v s₂.heap L ∧ E s o s₂ L k n
theorem Fin.go (st : ∀ t, Steps p.tables e below (T'.setTop g') t → Steps p.tables e below (T.setTop g) t) (w : Fin E p e below s Q k n T' g') : Fin E p e below s Q k n T g := by
  obtain ⟨s₂, o, h1, r⟩ := w
  exact ⟨s₂, o, st _ h1, r⟩
theorem Fin.came (st : Steps p.tables e below (T.setTop g) (T'.setTop g')) (w : Fin E p e below s Q k n T' g') : Fin E p e below s Q k n T g := by
  obtain ⟨s₂, o, h1, r⟩ := w
  exact ⟨s₂, o, st.trans h1, r⟩
theorem Fin.leaveN (X : Stand p l e R s m args below meth c T locs cells slots) (eT : T.heap = h) (hlk : meth.locks = false) {v : Option Value} (hv : meth.sig.returnType = none → v = none) (hk : cells ≤ k) (hn : slots ≤ n) (hq : Q v h locs)
    (st : ∀ fs, (∀ (f : JFrame) (acts : List Action), f.method = m → f.locked = none → f.entered = [] → (doReturn e (T.setTop f) acts v).1 = T.setFrames fs) → Steps p.tables e below (T.setTop g) (T.setFrames fs)) : Fin FrameEnd p e below s Q k n T g := by
  subst eT
  obtain ⟨fs, hr, hrun, hended, hW, hsame⟩ := X.leave hv hlk
  exact ⟨_, _, st fs hr, hrun, hended, v, locs, rfl, hq, ⟨v, rfl⟩, hW, hsame.mono hk hn⟩
/-- a body's contract: called with these arguments at this heap, it comes back as Q says -/
abbrev ConW (E : State → Outcome → State → List Loc → Nat → Nat → Prop) (l : Launch) (Z : State) (ws : List Jvm.Cond) (y : MethodName) (bytes : ByteArray) (maxL : Nat) (ret : Option FieldType) (rm : Room) (as' : Array Value) (h : Heap) (Q : Option Value → Heap → List Loc → Prop) : Prop :=
  MetFree l y (head1 (Jvm.Cond.code y bytes maxL ret :: ws) rm) (fun a U => a = as' ∧ Z.Warmed39 U.vm ∧ U.heap = h) (fun _ _ _ _ _ => True) (fun _ U o U' => ∃ v L, o = .returned v ∧ Q v U'.heap L ∧ E U o U' L rm.cells rm.slots)
abbrev Con (E : State → Outcome → State → List Loc → Nat → Nat → Prop) (l : Launch) (Z : State) (y : MethodName) (bytes : ByteArray) (maxL : Nat) (ret : Option FieldType) (rm : Room) (as' : Array Value) (h : Heap) (Q : Option Value → Heap → List Loc → Prop) : Prop := ConW E l Z [] y bytes maxL ret rm as' h Q
theorem conOf {ws : List Jvm.Cond} {y : MethodName} {bytes : ByteArray} {maxL : Nat} {ret : Option FieldType} {rm : Room} {as' : Array Value} (hpn : plainFor y = true)
    (body : ∀ (p : Program) (e : Env) (s : State) (m : MethodId) (below : List Frame) (meth : Method) (c : Code) (s₁ : State), Stand p l e rm s m as' below meth c s₁ [] 0 0 → p.tables.exec = Jvm.exec → c.code = bytes → c.maxLocals = maxL → s.vm.findClass y.cls = some m.cls → meth.name = y.name →
      meth.sig.returnType = ret → meth.locks = false → Z.Warmed39 s.vm → s₁.heap = h → Fin E p e below s Q rm.cells rm.slots s₁ (entryFrame m as' maxL)) : ConW E l Z ws y bytes maxL ret rm as' h Q := by
  refine MetFree.of_bodySF hpn hisR ?_
  intro p e s m args below meth c s₁ Bd hml hP hK
  obtain ⟨rfl, hZ, hh⟩ := hP
  exact body p e s m below meth c s₁ (Stand.of_body Bd) Bd.exec Bd.bytes hml (findClass_of_methodNamed Bd.named) (name_of_methodNamed Bd.named Bd.method).1 Bd.returns (BodyLoose.notSynchronized Bd) hZ (by rw [← hh, Bd.state]; rfl)
/-- nothing moved; r is returned -/
abbrev Pure (h0 : Heap) (r : Option Value) : Option Value → Heap → List Loc → Prop := fun v h L => v = r ∧ h = h0 ∧ L = []
theorem nar_refv {v : Value} {t : FieldType} (h : v.isRef = true) (ht : t.isReference = true) : narrow t v = v := by
  rcases ref_cases h with rfl | ⟨a, rfl⟩ <;> cases t <;> first | rfl | (simp [FieldType.isReference] at ht)
theorem fits_refv {v : Value} {t : FieldType} (h : v.isRef = true) (ht : t.isReference = true) : fits t v = true := by
  rcases ref_cases h with rfl | ⟨a, rfl⟩ <;> cases t <;> first | rfl | (simp [FieldType.isReference] at ht)
theorem nar_b8 (x : Int32) : nar .byte ((Int32.toInt8 x).toInt32) = (Int32.toInt8 x).toInt32 := by simp [nar]
theorem nar_c16 (x : Int32) : nar .char ((Int32.toUInt32 x).toUInt16.toUInt32.toInt32) = (Int32.toUInt32 x).toUInt16.toUInt32.toInt32 := by simp only [nar, UInt32.toUInt32_toInt32, UInt16.toUInt16_toUInt32]
section Calls
variable {own : String} {index : Nat} {y z : MethodName} {bytes : ByteArray} {maxL : Nat} {ret : Option FieldType} {rm : Room} {W : Nat} {Qc : Option Value → Heap → List Loc → Prop} {argsL rest : List Value}
theorem callSt (X : Stand p l e R s m args below meth c T locs cells slots) (hx : p.tables.exec = Jvm.exec) (hZ : Z.Warmed39 s.vm) (hown : s.vm.findClass own = some m.cls)
    (w1 : (Jvm.Cond.methodLink own index y).before a0 Z = true) (w2 : (Jvm.Cond.static y).before a0 Z = true) (w3 : (Jvm.Cond.initialized y.cls).before a0 Z = true) (w4 : (Jvm.Cond.code y bytes maxL ret).before a0 Z = true) (hy : y.cls ≠ "java/lang/invoke/MethodHandle" ∧ y.cls ≠ "java/lang/invoke/VarHandle")
    (hC : Con FrameEnd l Z y bytes maxL ret rm argsL.toArray h Qc) (eT : T.heap = h) (hf : rm.frames + 1 ≤ R.frames) (hl : W + (maxL + 11) + rm.locals ≤ R.locals) (hc : cells + rm.cells ≤ R.cells) (hs : slots + rm.slots ≤ R.slots)
    (hg : g.method = m) (hsize : g.locals.size = c.maxLocals) (hlen : ∀ sig, parseMethodDescriptor y.desc = some sig → argsL.length = sig.parameters.length) (hstack : g.stack = argsL.reverse ++ rest) (hW : 2 * g.monitorRoom + (rest.map fun v => v.category).sum ≤ W) (hdg : decode c.code g.pc = .ok (.invokestatic index, 3)) :
    ∃ (v : Option Value) (T' : State) (L : List Loc), Stand p l e R s m args below meth c T' (locs ++ L) (cells + rm.cells) (slots + rm.slots) ∧ Qc v T'.heap L ∧ ∀ target, Steps p.tables e below (T'.setTop { g with pc := g.pc + 3, stack := v.toList ++ rest }) target → Steps p.tables e below (T.setTop g) target := by
  obtain ⟨v, _, ⟨T2, L2, k2, n2⟩, -, X2, ⟨Lc2, hQ2, l2, y2, z2⟩, st2⟩ := Jvm.LawKit.callS X hx hown (mvT hZ w1) (mvT hZ w2) (mvT hZ w3) (mvT hZ w4) hy (backOf (W := W) hC hZ w4 w3 hf hl) hg hsize hlen hstack hW hdg (fun _ _ => ⟨rfl, eT, hc, hs⟩)
  dsimp only [Pt.U, Pt.locs, Pt.cells, Pt.slots] at X2 l2 y2 z2 st2 hQ2
  subst l2 y2 z2
  exact ⟨v, T2, Lc2, X2, hQ2, st2⟩
theorem callCt (X : Stand p l e R s m args below meth c T locs cells slots) (hx : p.tables.exec = Jvm.exec) (hZ : Z.Warmed39 s.vm) (hy1 : y.name = "<init>") (hown : s.vm.findClass own = some m.cls)
    (w1 : (Jvm.Cond.methodLink own index y).before a0 Z = true) (w2 : (Jvm.Cond.instanceMethod y).before a0 Z = true) (w3 : (Jvm.Cond.initialized y.cls).before a0 Z = true) (w4 : (Jvm.Cond.code y bytes maxL none).before a0 Z = true) (hy : y.cls ≠ "java/lang/invoke/MethodHandle" ∧ y.cls ≠ "java/lang/invoke/VarHandle")
    {a : Addr} (hC : Con FrameEnd l Z y bytes maxL none rm (.ref a :: argsL).toArray h Qc) (eT : T.heap = h) (hf : rm.frames + 1 ≤ R.frames) (hl : W + (maxL + 11) + rm.locals ≤ R.locals) (hc : cells + rm.cells ≤ R.cells) (hs : slots + rm.slots ≤ R.slots)
    (hg : g.method = m) (hsize : g.locals.size = c.maxLocals) (hlen : ∀ sig, parseMethodDescriptor y.desc = some sig → argsL.length = sig.parameters.length) (hstack : g.stack = argsL.reverse ++ .ref a :: rest) (hW : 2 * g.monitorRoom + (rest.map fun v => v.category).sum ≤ W) (hdg : decode c.code g.pc = .ok (.invokespecial index, 3)) :
    ∃ (v : Option Value) (T' : State) (L : List Loc), Stand p l e R s m args below meth c T' (locs ++ L) (cells + rm.cells) (slots + rm.slots) ∧ Qc v T'.heap L ∧ ∀ target, Steps p.tables e below (T'.setTop { g with pc := g.pc + 3, stack := v.toList ++ rest }) target → Steps p.tables e below (T.setTop g) target := by
  obtain ⟨v, _, ⟨T2, L2, k2, n2⟩, -, X2, ⟨Lc2, hQ2, l2, y2, z2⟩, st2⟩ := X.specialBack hx hy1 hown (mvT hZ w1) (mvT hZ w2) (mvT hZ w4) hy (backOf (W := W) hC hZ w4 w3 hf hl) hg hsize (Steps.refl _) hlen hstack hW hdg (fun _ _ => ⟨rfl, eT, hc, hs⟩)
  dsimp only [Pt.U, Pt.locs, Pt.cells, Pt.slots] at X2 l2 y2 z2 st2 hQ2
  subst l2 y2 z2
  exact ⟨v, T2, Lc2, X2, hQ2, fun _ k => st2.trans k⟩
theorem callVt {C : String} (X : Stand p l e R s m args below meth c T locs cells slots) (hx : p.tables.exec = Jvm.exec) (hZ : Z.Warmed39 s.vm) (hown : s.vm.findClass own = some m.cls)
    (w1 : (Jvm.Cond.methodLink own index y).before a0 Z = true) (w2 : (Jvm.Cond.declares y).before a0 Z = true) (w3 : (Jvm.Cond.selects C y y).before a0 Z = true) (w4 : (Jvm.Cond.instanceMethod y).before a0 Z = true) (w5 : (Jvm.Cond.initialized y.cls).before a0 Z = true) (w6 : (Jvm.Cond.code y bytes maxL ret).before a0 Z = true)
    (hy : y.cls ≠ "java/lang/invoke/MethodHandle" ∧ y.cls ≠ "java/lang/invoke/VarHandle")
    {a : Addr} (hC : Con FrameEnd l Z y bytes maxL ret rm (.ref a :: argsL).toArray h Qc) (eT : T.heap = h) (EA : Exa Z h a C) (hf : rm.frames + 1 ≤ R.frames) (hl : W + (maxL + 11) + rm.locals ≤ R.locals) (hc : cells + rm.cells ≤ R.cells) (hs : slots + rm.slots ≤ R.slots)
    (hg : g.method = m) (hsize : g.locals.size = c.maxLocals) (hlen : ∀ sig, parseMethodDescriptor y.desc = some sig → argsL.length = sig.parameters.length) (hstack : g.stack = argsL.reverse ++ .ref a :: rest) (hW : 2 * g.monitorRoom + (rest.map fun v => v.category).sum ≤ W) (hdg : decode c.code g.pc = .ok (.invokevirtual index, 3)) :
    ∃ (v : Option Value) (T' : State) (L : List Loc), Stand p l e R s m args below meth c T' (locs ++ L) (cells + rm.cells) (slots + rm.slots) ∧ Qc v T'.heap L ∧ ∀ target, Steps p.tables e below (T'.setTop { g with pc := g.pc + 3, stack := v.toList ++ rest }) target → Steps p.tables e below (T.setTop g) target := by
  obtain ⟨cq, kq, qa, qb, qc⟩ := isOf hZ eT EA
  obtain ⟨v, _, ⟨T2, L2, k2, n2⟩, -, X2, ⟨Lc2, hQ2, l2, y2, z2⟩, st2⟩ := X.virtualBack hx hown (mvT hZ w1) (mvT hZ w2) (notFace_of_selects (args := #[]) (mvT hZ w3)) (mvT hZ w3) (mvT hZ w4) hy (backOf (W := W) hC hZ w6 w5 hf hl) qa qc hg hsize (Steps.refl _) hlen hstack hW hdg (fun _ _ => ⟨rfl, eT, hc, hs⟩)
  dsimp only [Pt.U, Pt.locs, Pt.cells, Pt.slots] at X2 l2 y2 z2 st2 hQ2
  subst l2 y2 z2
  exact ⟨v, T2, Lc2, X2, hQ2, fun _ k => st2.trans k⟩
theorem callVUt {C owner : String} (X : Stand p l e R s m args below meth c T locs cells slots) (hx : p.tables.exec = Jvm.exec) (hZ : Z.Warmed39 s.vm) (hown : s.vm.findClass own = some m.cls)
    (w1 : (Jvm.Cond.methodLink own index y).before a0 Z = true) (w1' : (Jvm.Cond.sameMethod y.cls owner y.name y.desc).before a0 Z = true) (w2 : (Jvm.Cond.declares ⟨owner, y.name, y.desc⟩).before a0 Z = true) (w3 : (Jvm.Cond.selects C y z).before a0 Z = true) (w4 : (Jvm.Cond.instanceMethod z).before a0 Z = true) (w5 : (Jvm.Cond.initialized z.cls).before a0 Z = true) (w6 : (Jvm.Cond.code z bytes maxL ret).before a0 Z = true)
    (hy : owner ≠ "java/lang/invoke/MethodHandle" ∧ owner ≠ "java/lang/invoke/VarHandle")
    {a : Addr} (hC : Con FrameEnd l Z z bytes maxL ret rm (.ref a :: argsL).toArray h Qc) (eT : T.heap = h) (EA : Exa Z h a C) (hf : rm.frames + 1 ≤ R.frames) (hl : W + (maxL + 11) + rm.locals ≤ R.locals) (hc : cells + rm.cells ≤ R.cells) (hs : slots + rm.slots ≤ R.slots)
    (hg : g.method = m) (hsize : g.locals.size = c.maxLocals) (hlen : ∀ sig, parseMethodDescriptor y.desc = some sig → argsL.length = sig.parameters.length) (hstack : g.stack = argsL.reverse ++ .ref a :: rest) (hW : 2 * g.monitorRoom + (rest.map fun v => v.category).sum ≤ W) (hdg : decode c.code g.pc = .ok (.invokevirtual index, 3)) :
    ∃ (v : Option Value) (T' : State) (L : List Loc), Stand p l e R s m args below meth c T' (locs ++ L) (cells + rm.cells) (slots + rm.slots) ∧ Qc v T'.heap L ∧ ∀ target, Steps p.tables e below (T'.setTop { g with pc := g.pc + 3, stack := v.toList ++ rest }) target → Steps p.tables e below (T.setTop g) target := by
  obtain ⟨cq, kq, qa, qb, qc⟩ := isOf hZ eT EA
  obtain ⟨v, _, ⟨T2, L2, k2, n2⟩, -, X2, ⟨Lc2, hQ2, l2, y2, z2⟩, st2⟩ := X.virtualBackUp hx hown (mvT hZ w1) (mvT hZ w1') (mvT hZ w2) hy (mvT hZ w3) (mvT hZ w4) (backOf (W := W) hC hZ w6 w5 hf hl) qa qc hg hsize (Steps.refl _) hlen hstack hW hdg (fun _ _ => ⟨rfl, eT, hc, hs⟩)
  dsimp only [Pt.U, Pt.locs, Pt.cells, Pt.slots] at X2 l2 y2 z2 st2 hQ2
  subst l2 y2 z2
  exact ⟨v, T2, Lc2, X2, hQ2, fun _ k => st2.trans k⟩
end Calls
end OwnKit
section OwnWide
variable {p : Program} {l : Launch} {e : Env} {R : Room} {s s' : State} {m : MethodId} {args : Array Value} {below : List Frame} {meth : Method} {c : Code} {T T' : State} {locs : List Loc} {cells slots : Nat} {g g' : JFrame} {Z : State} {a0 : Array Value} {h : Heap} {Q : Option Value → Heap → List Loc → Prop} {k n : Nat} {vm0 : Vm} {k0 : Nat} {EL : List (String × Nat)}
/-- the wide frame, with the invariant on the String constants -/
def EH (Z : State) (EL : List (String × Nat)) : State → Outcome → State → List Loc → Nat → Nat → Prop := fun s o t L k n => CHr Z EL s.vm s.heap t.vm t.heap ∧ ReturnedEndW s o t L k n
abbrev ConHW (l : Launch) (Z : State) (EL : List (String × Nat)) (ws : List Jvm.Cond) (y : MethodName) (bytes : ByteArray) (maxL : Nat) (ret : Option FieldType) (rm : Room) (as' : Array Value) (h : Heap) (Q : Option Value → Heap → List Loc → Prop) : Prop :=
  MetFree l y (head1 (Jvm.Cond.code y bytes maxL ret :: ws) rm) (fun a U => a = as' ∧ Z.Warmed39 U.vm ∧ U.heap = h ∧ CHv Z EL U.vm h) (fun _ _ _ _ _ => True) (fun _ U o U' => ∃ v L, o = .returned v ∧ Q v U'.heap L ∧ CHr Z EL U.vm U.heap U'.vm U'.heap ∧ ReturnedEndW U o U' L rm.cells rm.slots)
abbrev ConH (l : Launch) (Z : State) (EL : List (String × Nat)) (y : MethodName) (bytes : ByteArray) (maxL : Nat) (ret : Option FieldType) (rm : Room) (as' : Array Value) (h : Heap) (Q : Option Value → Heap → List Loc → Prop) : Prop := ConHW l Z EL [] y bytes maxL ret rm as' h Q
theorem conOfH {ws : List Jvm.Cond} {y : MethodName} {bytes : ByteArray} {maxL : Nat} {ret : Option FieldType} {rm : Room} {as' : Array Value} (hpn : plainFor y = true)
    (body : ∀ (p : Program) (e : Env) (s : State) (m : MethodId) (below : List Frame) (meth : Method) (c : Code) (s₁ : State), Stand p l e rm (s.setVm s.vm) m as' below meth c s₁ [] 0 0 → p.tables.exec = Jvm.exec → c.code = bytes → c.maxLocals = maxL → (s.setVm s.vm).vm.findClass y.cls = some m.cls → meth.name = y.name →
      meth.sig.returnType = ret → meth.locks = false → Z.Warmed39 (s.setVm s.vm).vm → s₁.heap = h → s.Since s.vm 0 → CHr Z EL s.vm s.heap s.vm h → Fin (EH Z EL) p e below s Q rm.cells rm.slots s₁ (entryFrame m as' maxL)) : ConHW l Z EL ws y bytes maxL ret rm as' h Q := by
  refine MetFree.of_bodySF hpn hisR ?_
  intro p e s m args below meth c s₁ Bd hml hP hK
  obtain ⟨rfl, hZ, rfl, hC⟩ := hP
  exact body p e s m below meth c s₁ (Stand.of_body Bd) Bd.exec Bd.bytes hml (findClass_of_methodNamed Bd.named) (name_of_methodNamed Bd.named Bd.method).1 Bd.returns (BodyLoose.notSynchronized Bd) hZ (by rw [Bd.state]; rfl) ((State.WarmedH.refl s).since 0) (CHr.refl hC)
theorem Fin.leaveH (X : Stand p l e R (s.setVm vm0) m args below meth c T locs cells slots) (hS : s.Since vm0 k0) (hk0 : k0 ≤ h.size) (hZ : Z.Warmed39 (s.setVm vm0).vm) (hEL : EW Z a0 EL) (eT : T.heap = h) (RR : CHr Z EL s.vm s.heap vm0 h) (hlk : meth.locks = false) {v : Option Value} (hv : meth.sig.returnType = none → v = none) (hk : cells ≤ k) (hn : slots ≤ n) (hq : Q v h locs)
    (st : ∀ fs, (∀ (f : JFrame) (acts : List Action), f.method = m → f.locked = none → f.entered = [] → (doReturn e (T.setTop f) acts v).1 = T.setFrames fs) → Steps p.tables e below (T.setTop g) (T.setFrames fs)) : Fin (EH Z EL) p e below s Q k n T g := by
  subst eT
  obtain ⟨fs, hr, hrun, hended, h1, h2, h3, h4⟩ := X.leaveW hS hk0 hv hlk
  exact ⟨_, _, st fs hr, hrun, hended, v, locs, rfl, hq, RR.trans (CHv.at X hZ hEL RR.1 : CHr Z EL vm0 T.heap T.vm T.heap), h1, h2, h3, h4.mono hk hn⟩
section CallsH
variable {own : String} {index : Nat} {y z : MethodName} {bytes : ByteArray} {maxL : Nat} {ret : Option FieldType} {rm : Room} {W : Nat} {Qc : Option Value → Heap → List Loc → Prop} {argsL rest : List Value}
theorem callStH (X : Stand p l e R (s.setVm vm0) m args below meth c T locs cells slots) (hx : p.tables.exec = Jvm.exec) (hZ : Z.Warmed39 (s.setVm vm0).vm) (hown : (s.setVm vm0).vm.findClass own = some m.cls)
    (w1 : (Jvm.Cond.methodLink own index y).before a0 Z = true) (w2 : (Jvm.Cond.static y).before a0 Z = true) (w3 : (Jvm.Cond.initialized y.cls).before a0 Z = true) (w4 : (Jvm.Cond.code y bytes maxL ret).before a0 Z = true) (hy : y.cls ≠ "java/lang/invoke/MethodHandle" ∧ y.cls ≠ "java/lang/invoke/VarHandle")
    (hC : ConH l Z EL y bytes maxL ret rm argsL.toArray h Qc) (eT : T.heap = h) (hS : s.Since vm0 k0) (hk : k0 ≤ h.size) (hEL : EW Z a0 EL) (H : CHv Z EL vm0 h) (hf : rm.frames + 1 ≤ R.frames) (hl : W + (maxL + 11) + rm.locals ≤ R.locals) (hc : cells + rm.cells ≤ R.cells) (hs : slots + rm.slots ≤ R.slots)
    (hg : g.method = m) (hsize : g.locals.size = c.maxLocals) (hlen : ∀ sig, parseMethodDescriptor y.desc = some sig → argsL.length = sig.parameters.length) (hstack : g.stack = argsL.reverse ++ rest) (hW : 2 * g.monitorRoom + (rest.map fun v => v.category).sum ≤ W) (hdg : decode c.code g.pc = .ok (.invokestatic index, 3)) :
    ∃ (v : Option Value) (T' : State) (L : List Loc), Stand p l e R (s.setVm T'.vm) m args below meth c T' (locs ++ L) (cells + rm.cells) (slots + rm.slots) ∧ s.Since T'.vm T'.heap.size ∧ Z.Warmed39 (s.setVm T'.vm).vm ∧ (s.setVm T'.vm).vm.findClass own = some m.cls ∧ CHr Z EL vm0 h T'.vm T'.heap ∧ Qc v T'.heap L ∧
      ∀ target, Steps p.tables e below (T'.setTop { g with pc := g.pc + 3, stack := v.toList ++ rest }) target → Steps p.tables e below (T.setTop g) target := by
  obtain ⟨v, _, ⟨T2, L2, k2, n2⟩, -, X2, hS2, hg2, ⟨Lc2, hQ2, l2, y2, z2, hC2⟩, st2⟩ := callSS X hx hown (mvT hZ w1) (mvT hZ w2) (mvT hZ w3) (mvT hZ w4) hy (backOfSH (W := W) hC hZ w4 w3 hf hl hEL H) hg hsize hlen hstack hW hdg (fun _ _ => ⟨rfl, eT, hc, hs⟩)
  dsimp only [Pt.U, Pt.locs, Pt.cells, Pt.slots] at X2 hS2 hg2 l2 y2 z2 st2 hQ2 hC2
  subst l2 y2 z2 eT
  obtain ⟨X3, hS3, hZ3, hown3⟩ := rebS hS hk X2 hS2 hg2 hZ hown
  exact ⟨v, T2, Lc2, X3, hS3, hZ3, hown3, hC2, hQ2, fun _ k => st2.trans k⟩
end CallsH
end OwnWide
theorem safe_of_null {Z : State} {EL : List (String × Nat)} {vm : Vm} {h : Heap} {a : Addr} (hal : Z.vm.Alike vm) (E : Exa Z h a "java/lang/String") (F : Fld Z h a "java/lang/String" "value" "[B" .null) : Safe Z EL vm h a := fun B => by
  obtain ⟨p, hp, u, a', hb, q, hq, G, hy⟩ := B
  have g1 := G.ha
  have g2 := G.hd
  obtain ⟨cS, ⟨⟨-, -, -, ⟨c1, k1, i1, f1, -⟩, -, -, -, v1, -⟩, -⟩, -, fB, -⟩ := G
  rcases hy with rfl | rfl
  · obtain ⟨cell, cf, k, i, f, e1, e2, -, -, -, -, e7⟩ := F
    cases g1.symm.trans e1
    obtain ⟨k3, e3, -⟩ := State.fieldFound?_setVm (s := Z) hal e2
    have e4 := (show (Wst Z vm h).fieldFound? _ _ _ = _ from e3).symm.trans f1
    simp only [Option.some.injEq, Prod.mk.injEq] at e4
    rw [← e4.2.2.2, e7] at v1
    simp at v1
  · obtain ⟨cell, k, e1, e2, -⟩ := E
    cases g2.symm.trans e1
    have fB' : Z.vm.findClass "[B" = some q.SA.cls := by rw [← hal.findClass]; exact fB
    obtain ⟨k1, q1, q2⟩ := Vm.findClass_spec fB'
    obtain ⟨k2, q3, q4⟩ := Vm.findClass_spec e2
    cases q1.symm.trans q3
    exact absurd (q2.symm.trans q4) (by decide)
theorem mT {d : Jvm.Cond} (i : Nat) (h : tables_1[i]? = some d) : d ∈ tables_1 := List.mem_of_getElem? h
theorem w_0 : (Jvm.Cond.constant "com/example/spool/spool/http/HttpErrorMethodNotAllowedPinLaw" (7 : Nat) (65535 : Int32)) ∈ tables_1 := mT 0 rfl
theorem w_1 : (Jvm.Cond.methodLink "com/example/spool/spool/http/HttpErrorMethodNotAllowedPinLaw" (12 : Nat) ({ cls := "java/lang/String", name := "valueOf", desc := "(C)Ljava/lang/String;" } : Jvm.MethodName)) ∈ tables_1 := mT 1 rfl
theorem w_2 : (Jvm.Cond.static ({ cls := "java/lang/String", name := "valueOf", desc := "(C)Ljava/lang/String;" } : Jvm.MethodName)) ∈ tables_1 := mT 2 rfl
theorem w_3 : (Jvm.Cond.initialized "java/lang/String") ∈ tables_1 := mT 3 rfl
theorem w_4 : (Jvm.Cond.code ({ cls := "java/lang/String", name := "valueOf", desc := "(C)Ljava/lang/String;" } : Jvm.MethodName) jdk_42_method_139_code (1 : Nat) (Option.some (Jvm.ClassFile.FieldType.object "java/lang/String"))) ∈ tables_1 := mT 4 rfl
theorem w_5 : (Jvm.Cond.fieldLink "java/lang/String" (38 : Nat) "java/lang/String" "COMPACT_STRINGS" "Z") ∈ tables_1 := mT 5 rfl
theorem w_6 : (Jvm.Cond.methodLink "java/lang/String" (1015 : Nat) ({ cls := "java/lang/StringLatin1", name := "canEncode", desc := "(C)Z" } : Jvm.MethodName)) ∈ tables_1 := mT 6 rfl
theorem w_7 : (Jvm.Cond.static ({ cls := "java/lang/StringLatin1", name := "canEncode", desc := "(C)Z" } : Jvm.MethodName)) ∈ tables_1 := mT 7 rfl
theorem w_8 : (Jvm.Cond.initialized "java/lang/StringLatin1") ∈ tables_1 := mT 8 rfl
theorem w_9 : (Jvm.Cond.code ({ cls := "java/lang/StringLatin1", name := "canEncode", desc := "(C)Z" } : Jvm.MethodName) jdk_43_method_3_code (1 : Nat) (Option.some Jvm.ClassFile.FieldType.boolean)) ∈ tables_1 := mT 9 rfl
theorem w_10 : (Jvm.Cond.classLink "java/lang/String" (10 : Nat) "java/lang/String") ∈ tables_1 := mT 10 rfl
theorem w_11 : (Jvm.Cond.instantiable "java/lang/String" (4 : Nat)) ∈ tables_1 := mT 11 rfl
theorem w_12 : (Jvm.Cond.methodLink "java/lang/String" (1018 : Nat) ({ cls := "java/lang/StringLatin1", name := "toBytes", desc := "(C)[B" } : Jvm.MethodName)) ∈ tables_1 := mT 12 rfl
theorem w_13 : (Jvm.Cond.static ({ cls := "java/lang/StringLatin1", name := "toBytes", desc := "(C)[B" } : Jvm.MethodName)) ∈ tables_1 := mT 13 rfl
theorem w_14 : (Jvm.Cond.code ({ cls := "java/lang/StringLatin1", name := "toBytes", desc := "(C)[B" } : Jvm.MethodName) jdk_43_method_46_code (1 : Nat) (Option.some (Jvm.ClassFile.FieldType.array Jvm.ClassFile.FieldType.byte))) ∈ tables_1 := mT 14 rfl
theorem w_15 : (Jvm.Cond.arrayClass Jvm.ClassFile.FieldType.byte) ∈ tables_1 := mT 15 rfl
theorem w_16 : (Jvm.Cond.methodLink "java/lang/String" (209 : Nat) ({ cls := "java/lang/String", name := "<init>", desc := "([BB)V" } : Jvm.MethodName)) ∈ tables_1 := mT 16 rfl
theorem w_17 : (Jvm.Cond.instanceMethod ({ cls := "java/lang/String", name := "<init>", desc := "([BB)V" } : Jvm.MethodName)) ∈ tables_1 := mT 17 rfl
theorem w_19 : (Jvm.Cond.code ({ cls := "java/lang/String", name := "<init>", desc := "([BB)V" } : Jvm.MethodName) jdk_42_method_151_code (3 : Nat) (Option.none : Option Jvm.ClassFile.FieldType)) ∈ tables_1 := mT 19 rfl
theorem w_20 : (Jvm.Cond.methodLink "java/lang/String" (1 : Nat) ({ cls := "java/lang/Object", name := "<init>", desc := "()V" } : Jvm.MethodName)) ∈ tables_1 := mT 20 rfl
theorem w_21 : (Jvm.Cond.instanceMethod ({ cls := "java/lang/Object", name := "<init>", desc := "()V" } : Jvm.MethodName)) ∈ tables_1 := mT 21 rfl
theorem w_22 : (Jvm.Cond.code ({ cls := "java/lang/Object", name := "<init>", desc := "()V" } : Jvm.MethodName) object_method_1_code (1 : Nat) (Option.none : Option Jvm.ClassFile.FieldType)) ∈ tables_1 := mT 22 rfl
theorem w_23 : (Jvm.Cond.fieldLink "java/lang/String" (9 : Nat) "java/lang/String" "value" "[B") ∈ tables_1 := mT 23 rfl
theorem w_24 : (Jvm.Cond.laysFinal "java/lang/String" "java/lang/String" "value" "[B") ∈ tables_1 := mT 24 rfl
theorem w_25 : (Jvm.Cond.fieldLink "java/lang/String" (15 : Nat) "java/lang/String" "coder" "B") ∈ tables_1 := mT 25 rfl
theorem w_26 : (Jvm.Cond.laysFinal "java/lang/String" "java/lang/String" "coder" "B") ∈ tables_1 := mT 26 rfl
theorem w_27 : (Jvm.Cond.classLink "com/example/spool/spool/http/HttpErrorMethodNotAllowedPinLaw" (13 : Nat) "java/lang/String") ∈ tables_1 := mT 27 rfl
theorem w_28 : (Jvm.Cond.arrayClass Jvm.ClassFile.FieldType.char) ∈ tables_1 := mT 28 rfl
theorem w_29 : (Jvm.Cond.methodLink "com/example/spool/spool/http/HttpErrorMethodNotAllowedPinLaw" (18 : Nat) ({ cls := "java/lang/String", name := "<init>", desc := "([C)V" } : Jvm.MethodName)) ∈ tables_1 := mT 29 rfl
theorem w_30 : (Jvm.Cond.instanceMethod ({ cls := "java/lang/String", name := "<init>", desc := "([C)V" } : Jvm.MethodName)) ∈ tables_1 := mT 30 rfl
theorem w_31 : (Jvm.Cond.code ({ cls := "java/lang/String", name := "<init>", desc := "([C)V" } : Jvm.MethodName) jdk_42_method_3_code (2 : Nat) (Option.none : Option Jvm.ClassFile.FieldType)) ∈ tables_1 := mT 31 rfl
theorem w_32 : (Jvm.Cond.methodLink "java/lang/String" (27 : Nat) ({ cls := "java/lang/String", name := "<init>", desc := "([CIILjava/lang/Void;)V" } : Jvm.MethodName)) ∈ tables_1 := mT 32 rfl
theorem w_33 : (Jvm.Cond.instanceMethod ({ cls := "java/lang/String", name := "<init>", desc := "([CIILjava/lang/Void;)V" } : Jvm.MethodName)) ∈ tables_1 := mT 33 rfl
theorem w_34 : (Jvm.Cond.code ({ cls := "java/lang/String", name := "<init>", desc := "([CIILjava/lang/Void;)V" } : Jvm.MethodName) jdk_42_method_149_code (6 : Nat) (Option.none : Option Jvm.ClassFile.FieldType)) ∈ tables_1 := mT 34 rfl
theorem w_35 : (Jvm.Cond.methodLink "java/lang/String" (177 : Nat) ({ cls := "java/lang/StringUTF16", name := "compress", desc := "([CII)[B" } : Jvm.MethodName)) ∈ tables_1 := mT 35 rfl
theorem w_36 : (Jvm.Cond.static ({ cls := "java/lang/StringUTF16", name := "compress", desc := "([CII)[B" } : Jvm.MethodName)) ∈ tables_1 := mT 36 rfl
theorem w_37 : (Jvm.Cond.initialized "java/lang/StringUTF16") ∈ tables_1 := mT 37 rfl
theorem w_38 : (Jvm.Cond.code ({ cls := "java/lang/StringUTF16", name := "compress", desc := "([CII)[B" } : Jvm.MethodName) jdk_52_method_16_code (6 : Nat) (Option.some (Jvm.ClassFile.FieldType.array Jvm.ClassFile.FieldType.byte))) ∈ tables_1 := mT 38 rfl
theorem w_39 : (Jvm.Cond.methodLink "java/lang/StringUTF16" (115 : Nat) ({ cls := "java/lang/StringUTF16", name := "compress", desc := "([CI[BII)I" } : Jvm.MethodName)) ∈ tables_1 := mT 39 rfl
theorem w_40 : (Jvm.Cond.static ({ cls := "java/lang/StringUTF16", name := "compress", desc := "([CI[BII)I" } : Jvm.MethodName)) ∈ tables_1 := mT 40 rfl
theorem w_41 : (Jvm.Cond.code ({ cls := "java/lang/StringUTF16", name := "compress", desc := "([CI[BII)I" } : Jvm.MethodName) jdk_52_method_21_code (7 : Nat) (Option.some Jvm.ClassFile.FieldType.int)) ∈ tables_1 := mT 41 rfl
theorem w_42 : (Jvm.Cond.methodLink "java/lang/String" (47 : Nat) ({ cls := "java/lang/StringUTF16", name := "coderFromArrayLen", desc := "([BI)B" } : Jvm.MethodName)) ∈ tables_1 := mT 42 rfl
theorem w_43 : (Jvm.Cond.static ({ cls := "java/lang/StringUTF16", name := "coderFromArrayLen", desc := "([BI)B" } : Jvm.MethodName)) ∈ tables_1 := mT 43 rfl
theorem w_44 : (Jvm.Cond.code ({ cls := "java/lang/StringUTF16", name := "coderFromArrayLen", desc := "([BI)B" } : Jvm.MethodName) jdk_52_method_15_code (2 : Nat) (Option.some Jvm.ClassFile.FieldType.byte)) ∈ tables_1 := mT 44 rfl
theorem w_45 : (Jvm.Cond.methodLink "com/example/spool/spool/http/HttpErrorMethodNotAllowedPinLaw" (21 : Nat) ({ cls := "com/example/spool/spool/http/HttpError", name := "methodNotAllowed", desc := "(Ljava/lang/String;)Lcom/example/spool/spool/http/HttpError;" } : Jvm.MethodName)) ∈ tables_1 := mT 45 rfl
theorem w_46 : (Jvm.Cond.static ({ cls := "com/example/spool/spool/http/HttpError", name := "methodNotAllowed", desc := "(Ljava/lang/String;)Lcom/example/spool/spool/http/HttpError;" } : Jvm.MethodName)) ∈ tables_1 := mT 46 rfl
theorem w_47 : (Jvm.Cond.initialized "com/example/spool/spool/http/HttpError") ∈ tables_1 := mT 47 rfl
theorem w_48 : (Jvm.Cond.code ({ cls := "com/example/spool/spool/http/HttpError", name := "methodNotAllowed", desc := "(Ljava/lang/String;)Lcom/example/spool/spool/http/HttpError;" } : Jvm.MethodName) prog_2_method_8_code (2 : Nat) (Option.some (Jvm.ClassFile.FieldType.object "com/example/spool/spool/http/HttpError"))) ∈ tables_1 := mT 48 rfl
theorem w_49 : (Jvm.Cond.classLink "com/example/spool/spool/http/HttpError" (1 : Nat) "com/example/spool/spool/http/HttpError") ∈ tables_1 := mT 49 rfl
theorem w_50 : (Jvm.Cond.instantiable "com/example/spool/spool/http/HttpError" (9 : Nat)) ∈ tables_1 := mT 50 rfl
theorem w_51 : (Jvm.Cond.stringLink "com/example/spool/spool/http/HttpError" (25 : Nat) "method_not_allowed") ∈ tables_1 := mT 51 rfl
theorem w_54 : (Jvm.Cond.classLink "com/example/spool/spool/http/HttpError" (27 : Nat) "java/lang/StringBuilder") ∈ tables_1 := mT 54 rfl
theorem w_55 : (Jvm.Cond.instantiable "java/lang/StringBuilder" (4 : Nat)) ∈ tables_1 := mT 55 rfl
theorem w_56 : (Jvm.Cond.initialized "java/lang/StringBuilder") ∈ tables_1 := mT 56 rfl
theorem w_57 : (Jvm.Cond.methodLink "com/example/spool/spool/http/HttpError" (29 : Nat) ({ cls := "java/lang/StringBuilder", name := "<init>", desc := "()V" } : Jvm.MethodName)) ∈ tables_1 := mT 57 rfl
theorem w_58 : (Jvm.Cond.instanceMethod ({ cls := "java/lang/StringBuilder", name := "<init>", desc := "()V" } : Jvm.MethodName)) ∈ tables_1 := mT 58 rfl
theorem w_59 : (Jvm.Cond.code ({ cls := "java/lang/StringBuilder", name := "<init>", desc := "()V" } : Jvm.MethodName) jdk_67_method_1_code (1 : Nat) (Option.none : Option Jvm.ClassFile.FieldType)) ∈ tables_1 := mT 59 rfl
theorem w_60 : (Jvm.Cond.methodLink "java/lang/StringBuilder" (1 : Nat) ({ cls := "java/lang/AbstractStringBuilder", name := "<init>", desc := "(I)V" } : Jvm.MethodName)) ∈ tables_1 := mT 60 rfl
theorem w_61 : (Jvm.Cond.instanceMethod ({ cls := "java/lang/AbstractStringBuilder", name := "<init>", desc := "(I)V" } : Jvm.MethodName)) ∈ tables_1 := mT 61 rfl
theorem w_64 : (Jvm.Cond.initialized "java/lang/AbstractStringBuilder") ∈ tables_1 := mT 64 rfl
theorem w_65 : (Jvm.Cond.code ({ cls := "java/lang/AbstractStringBuilder", name := "<init>", desc := "(I)V" } : Jvm.MethodName) jdk_68_method_2_code (2 : Nat) (Option.none : Option Jvm.ClassFile.FieldType)) ∈ tables_1 := mT 65 rfl
theorem w_66 : (Jvm.Cond.methodLink "java/lang/AbstractStringBuilder" (3 : Nat) ({ cls := "java/lang/Object", name := "<init>", desc := "()V" } : Jvm.MethodName)) ∈ tables_1 := mT 66 rfl
theorem w_67 : (Jvm.Cond.fieldLink "java/lang/AbstractStringBuilder" (18 : Nat) "java/lang/String" "COMPACT_STRINGS" "Z") ∈ tables_1 := mT 67 rfl
theorem w_68 : (Jvm.Cond.fieldLink "java/lang/AbstractStringBuilder" (15 : Nat) "java/lang/AbstractStringBuilder" "value" "[B") ∈ tables_1 := mT 68 rfl
theorem w_69 : (Jvm.Cond.lays "java/lang/StringBuilder" "java/lang/AbstractStringBuilder" "value" "[B") ∈ tables_1 := mT 69 rfl
theorem w_70 : (Jvm.Cond.fieldLink "java/lang/AbstractStringBuilder" (22 : Nat) "java/lang/AbstractStringBuilder" "coder" "B") ∈ tables_1 := mT 70 rfl
theorem w_71 : (Jvm.Cond.lays "java/lang/StringBuilder" "java/lang/AbstractStringBuilder" "coder" "B") ∈ tables_1 := mT 71 rfl
theorem w_72 : (Jvm.Cond.stringLink "com/example/spool/spool/http/HttpError" (32 : Nat) "This path answers ") ∈ tables_1 := mT 72 rfl
theorem w_73 : (Jvm.Cond.methodLink "com/example/spool/spool/http/HttpError" (34 : Nat) ({ cls := "java/lang/StringBuilder", name := "append", desc := "(Ljava/lang/String;)Ljava/lang/StringBuilder;" } : Jvm.MethodName)) ∈ tables_1 := mT 73 rfl
theorem w_74 : (Jvm.Cond.declares ({ cls := "java/lang/StringBuilder", name := "append", desc := "(Ljava/lang/String;)Ljava/lang/StringBuilder;" } : Jvm.MethodName)) ∈ tables_1 := mT 74 rfl
theorem w_75 : (Jvm.Cond.instanceMethod ({ cls := "java/lang/StringBuilder", name := "append", desc := "(Ljava/lang/String;)Ljava/lang/StringBuilder;" } : Jvm.MethodName)) ∈ tables_1 := mT 75 rfl
theorem w_76 : (Jvm.Cond.selects "java/lang/StringBuilder" ({ cls := "java/lang/StringBuilder", name := "append", desc := "(Ljava/lang/String;)Ljava/lang/StringBuilder;" } : Jvm.MethodName) ({ cls := "java/lang/StringBuilder", name := "append", desc := "(Ljava/lang/String;)Ljava/lang/StringBuilder;" } : Jvm.MethodName)) ∈ tables_1 := mT 76 rfl
theorem w_77 : (Jvm.Cond.code ({ cls := "java/lang/StringBuilder", name := "append", desc := "(Ljava/lang/String;)Ljava/lang/StringBuilder;" } : Jvm.MethodName) jdk_67_method_7_code (2 : Nat) (Option.some (Jvm.ClassFile.FieldType.object "java/lang/StringBuilder"))) ∈ tables_1 := mT 77 rfl
theorem w_78 : (Jvm.Cond.methodLink "java/lang/StringBuilder" (29 : Nat) ({ cls := "java/lang/AbstractStringBuilder", name := "append", desc := "(Ljava/lang/String;)Ljava/lang/AbstractStringBuilder;" } : Jvm.MethodName)) ∈ tables_1 := mT 78 rfl
theorem w_79 : (Jvm.Cond.instanceMethod ({ cls := "java/lang/AbstractStringBuilder", name := "append", desc := "(Ljava/lang/String;)Ljava/lang/AbstractStringBuilder;" } : Jvm.MethodName)) ∈ tables_1 := mT 79 rfl
theorem w_80 : (Jvm.Cond.superclass "java/lang/StringBuilder" "java/lang/AbstractStringBuilder") ∈ tables_1 := mT 80 rfl
theorem w_82 : (Jvm.Cond.code ({ cls := "java/lang/AbstractStringBuilder", name := "append", desc := "(Ljava/lang/String;)Ljava/lang/AbstractStringBuilder;" } : Jvm.MethodName) jdk_68_method_22_code (3 : Nat) (Option.some (Jvm.ClassFile.FieldType.object "java/lang/AbstractStringBuilder"))) ∈ tables_1 := mT 82 rfl
theorem w_83 : (Jvm.Cond.methodLink "java/lang/AbstractStringBuilder" (32 : Nat) ({ cls := "java/lang/String", name := "length", desc := "()I" } : Jvm.MethodName)) ∈ tables_1 := mT 83 rfl
theorem w_84 : (Jvm.Cond.declares ({ cls := "java/lang/String", name := "length", desc := "()I" } : Jvm.MethodName)) ∈ tables_1 := mT 84 rfl
theorem w_85 : (Jvm.Cond.instanceMethod ({ cls := "java/lang/String", name := "length", desc := "()I" } : Jvm.MethodName)) ∈ tables_1 := mT 85 rfl
theorem w_86 : (Jvm.Cond.selects "java/lang/String" ({ cls := "java/lang/String", name := "length", desc := "()I" } : Jvm.MethodName) ({ cls := "java/lang/String", name := "length", desc := "()I" } : Jvm.MethodName)) ∈ tables_1 := mT 86 rfl
theorem w_87 : (Jvm.Cond.code ({ cls := "java/lang/String", name := "length", desc := "()I" } : Jvm.MethodName) jdk_42_method_54_code (1 : Nat) (Option.some Jvm.ClassFile.FieldType.int)) ∈ tables_1 := mT 87 rfl
theorem w_88 : (Jvm.Cond.methodLink "java/lang/String" (335 : Nat) ({ cls := "java/lang/String", name := "coder", desc := "()B" } : Jvm.MethodName)) ∈ tables_1 := mT 88 rfl
theorem w_89 : (Jvm.Cond.declares ({ cls := "java/lang/String", name := "coder", desc := "()B" } : Jvm.MethodName)) ∈ tables_1 := mT 89 rfl
theorem w_90 : (Jvm.Cond.instanceMethod ({ cls := "java/lang/String", name := "coder", desc := "()B" } : Jvm.MethodName)) ∈ tables_1 := mT 90 rfl
theorem w_91 : (Jvm.Cond.selects "java/lang/String" ({ cls := "java/lang/String", name := "coder", desc := "()B" } : Jvm.MethodName) ({ cls := "java/lang/String", name := "coder", desc := "()B" } : Jvm.MethodName)) ∈ tables_1 := mT 91 rfl
theorem w_92 : (Jvm.Cond.code ({ cls := "java/lang/String", name := "coder", desc := "()B" } : Jvm.MethodName) jdk_42_method_152_code (1 : Nat) (Option.some Jvm.ClassFile.FieldType.byte)) ∈ tables_1 := mT 92 rfl
theorem w_93 : (Jvm.Cond.fieldLink "java/lang/AbstractStringBuilder" (79 : Nat) "java/lang/AbstractStringBuilder" "count" "I") ∈ tables_1 := mT 93 rfl
theorem w_94 : (Jvm.Cond.lays "java/lang/StringBuilder" "java/lang/AbstractStringBuilder" "count" "I") ∈ tables_1 := mT 94 rfl
theorem w_95 : (Jvm.Cond.methodLink "java/lang/AbstractStringBuilder" (100 : Nat) ({ cls := "java/lang/AbstractStringBuilder", name := "ensureCapacityInternal", desc := "(I)V" } : Jvm.MethodName)) ∈ tables_1 := mT 95 rfl
theorem w_96 : (Jvm.Cond.instanceMethod ({ cls := "java/lang/AbstractStringBuilder", name := "ensureCapacityInternal", desc := "(I)V" } : Jvm.MethodName)) ∈ tables_1 := mT 96 rfl
theorem w_98 : (Jvm.Cond.selects "java/lang/StringBuilder" ({ cls := "java/lang/AbstractStringBuilder", name := "ensureCapacityInternal", desc := "(I)V" } : Jvm.MethodName) ({ cls := "java/lang/AbstractStringBuilder", name := "ensureCapacityInternal", desc := "(I)V" } : Jvm.MethodName)) ∈ tables_1 := mT 98 rfl
theorem w_99 : (Jvm.Cond.code ({ cls := "java/lang/AbstractStringBuilder", name := "ensureCapacityInternal", desc := "(I)V" } : Jvm.MethodName) jdk_68_method_9_code (3 : Nat) (Option.none : Option Jvm.ClassFile.FieldType)) ∈ tables_1 := mT 99 rfl
theorem w_100 : (Jvm.Cond.methodLink "java/lang/AbstractStringBuilder" (104 : Nat) ({ cls := "java/lang/AbstractStringBuilder", name := "newCapacity", desc := "(I)I" } : Jvm.MethodName)) ∈ tables_1 := mT 100 rfl
theorem w_101 : (Jvm.Cond.instanceMethod ({ cls := "java/lang/AbstractStringBuilder", name := "newCapacity", desc := "(I)I" } : Jvm.MethodName)) ∈ tables_1 := mT 101 rfl
theorem w_103 : (Jvm.Cond.selects "java/lang/StringBuilder" ({ cls := "java/lang/AbstractStringBuilder", name := "newCapacity", desc := "(I)I" } : Jvm.MethodName) ({ cls := "java/lang/AbstractStringBuilder", name := "newCapacity", desc := "(I)I" } : Jvm.MethodName)) ∈ tables_1 := mT 103 rfl
theorem w_104 : (Jvm.Cond.code ({ cls := "java/lang/AbstractStringBuilder", name := "newCapacity", desc := "(I)I" } : Jvm.MethodName) jdk_68_method_10_code (6 : Nat) (Option.some Jvm.ClassFile.FieldType.int)) ∈ tables_1 := mT 104 rfl
theorem w_105 : (Jvm.Cond.methodLink "java/lang/AbstractStringBuilder" (114 : Nat) ({ cls := "jdk/internal/util/ArraysSupport", name := "newLength", desc := "(III)I" } : Jvm.MethodName)) ∈ tables_1 := mT 105 rfl
theorem w_106 : (Jvm.Cond.static ({ cls := "jdk/internal/util/ArraysSupport", name := "newLength", desc := "(III)I" } : Jvm.MethodName)) ∈ tables_1 := mT 106 rfl
theorem w_107 : (Jvm.Cond.initialized "jdk/internal/util/ArraysSupport") ∈ tables_1 := mT 107 rfl
theorem w_108 : (Jvm.Cond.code ({ cls := "jdk/internal/util/ArraysSupport", name := "newLength", desc := "(III)I" } : Jvm.MethodName) jdk_48_method_27_code (4 : Nat) (Option.some Jvm.ClassFile.FieldType.int)) ∈ tables_1 := mT 108 rfl
theorem w_109 : (Jvm.Cond.methodLink "jdk/internal/util/ArraysSupport" (194 : Nat) ({ cls := "java/lang/Math", name := "max", desc := "(II)I" } : Jvm.MethodName)) ∈ tables_1 := mT 109 rfl
theorem w_110 : (Jvm.Cond.static ({ cls := "java/lang/Math", name := "max", desc := "(II)I" } : Jvm.MethodName)) ∈ tables_1 := mT 110 rfl
theorem w_111 : (Jvm.Cond.initialized "java/lang/Math") ∈ tables_1 := mT 111 rfl
theorem w_112 : (Jvm.Cond.code ({ cls := "java/lang/Math", name := "max", desc := "(II)I" } : Jvm.MethodName) jdk_29_method_65_code (2 : Nat) (Option.some Jvm.ClassFile.FieldType.int)) ∈ tables_1 := mT 112 rfl
theorem w_113 : (Jvm.Cond.constant "jdk/internal/util/ArraysSupport" (200 : Nat) (2147483639 : Int32)) ∈ tables_1 := mT 113 rfl
theorem w_114 : (Jvm.Cond.constant "java/lang/AbstractStringBuilder" (39 : Nat) (2147483647 : Int32)) ∈ tables_1 := mT 114 rfl
theorem w_115 : (Jvm.Cond.methodLink "java/lang/AbstractStringBuilder" (108 : Nat) ({ cls := "java/util/Arrays", name := "copyOf", desc := "([BI)[B" } : Jvm.MethodName)) ∈ tables_1 := mT 115 rfl
theorem w_116 : (Jvm.Cond.static ({ cls := "java/util/Arrays", name := "copyOf", desc := "([BI)[B" } : Jvm.MethodName)) ∈ tables_1 := mT 116 rfl
theorem w_117 : (Jvm.Cond.initialized "java/util/Arrays") ∈ tables_1 := mT 117 rfl
theorem w_118 : (Jvm.Cond.code ({ cls := "java/util/Arrays", name := "copyOf", desc := "([BI)[B" } : Jvm.MethodName) jdk_65_method_121_code (3 : Nat) (Option.some (Jvm.ClassFile.FieldType.array Jvm.ClassFile.FieldType.byte))) ∈ tables_1 := mT 118 rfl
theorem w_119 : (Jvm.Cond.methodLink "java/util/Arrays" (304 : Nat) ({ cls := "java/lang/Math", name := "min", desc := "(II)I" } : Jvm.MethodName)) ∈ tables_1 := mT 119 rfl
theorem w_120 : (Jvm.Cond.static ({ cls := "java/lang/Math", name := "min", desc := "(II)I" } : Jvm.MethodName)) ∈ tables_1 := mT 120 rfl
theorem w_121 : (Jvm.Cond.code ({ cls := "java/lang/Math", name := "min", desc := "(II)I" } : Jvm.MethodName) jdk_29_method_69_code (2 : Nat) (Option.some Jvm.ClassFile.FieldType.int)) ∈ tables_1 := mT 121 rfl
theorem w_122 : (Jvm.Cond.methodLink "java/util/Arrays" (150 : Nat) ({ cls := "java/lang/System", name := "arraycopy", desc := "(Ljava/lang/Object;ILjava/lang/Object;II)V" } : Jvm.MethodName)) ∈ tables_1 := mT 122 rfl
theorem w_123 : (Jvm.Cond.static ({ cls := "java/lang/System", name := "arraycopy", desc := "(Ljava/lang/Object;ILjava/lang/Object;II)V" } : Jvm.MethodName)) ∈ tables_1 := mT 123 rfl
theorem w_124 : (Jvm.Cond.initialized "java/lang/System") ∈ tables_1 := mT 124 rfl
theorem w_125 : (Jvm.Cond.native ({ cls := "java/lang/System", name := "arraycopy", desc := "(Ljava/lang/Object;ILjava/lang/Object;II)V" } : Jvm.MethodName)) ∈ tables_1 := mT 125 rfl
theorem w_126 : (Jvm.Cond.methodLink "java/lang/AbstractStringBuilder" (208 : Nat) ({ cls := "java/lang/AbstractStringBuilder", name := "putStringAt", desc := "(ILjava/lang/String;)V" } : Jvm.MethodName)) ∈ tables_1 := mT 126 rfl
theorem w_127 : (Jvm.Cond.instanceMethod ({ cls := "java/lang/AbstractStringBuilder", name := "putStringAt", desc := "(ILjava/lang/String;)V" } : Jvm.MethodName)) ∈ tables_1 := mT 127 rfl
theorem w_129 : (Jvm.Cond.selects "java/lang/StringBuilder" ({ cls := "java/lang/AbstractStringBuilder", name := "putStringAt", desc := "(ILjava/lang/String;)V" } : Jvm.MethodName) ({ cls := "java/lang/AbstractStringBuilder", name := "putStringAt", desc := "(ILjava/lang/String;)V" } : Jvm.MethodName)) ∈ tables_1 := mT 129 rfl
theorem w_130 : (Jvm.Cond.code ({ cls := "java/lang/AbstractStringBuilder", name := "putStringAt", desc := "(ILjava/lang/String;)V" } : Jvm.MethodName) jdk_68_method_73_code (3 : Nat) (Option.none : Option Jvm.ClassFile.FieldType)) ∈ tables_1 := mT 130 rfl
theorem w_131 : (Jvm.Cond.methodLink "java/lang/AbstractStringBuilder" (397 : Nat) ({ cls := "java/lang/AbstractStringBuilder", name := "inflateIfNeededFor", desc := "(Ljava/lang/String;)V" } : Jvm.MethodName)) ∈ tables_1 := mT 131 rfl
theorem w_132 : (Jvm.Cond.instanceMethod ({ cls := "java/lang/AbstractStringBuilder", name := "inflateIfNeededFor", desc := "(Ljava/lang/String;)V" } : Jvm.MethodName)) ∈ tables_1 := mT 132 rfl
theorem w_134 : (Jvm.Cond.selects "java/lang/StringBuilder" ({ cls := "java/lang/AbstractStringBuilder", name := "inflateIfNeededFor", desc := "(Ljava/lang/String;)V" } : Jvm.MethodName) ({ cls := "java/lang/AbstractStringBuilder", name := "inflateIfNeededFor", desc := "(Ljava/lang/String;)V" } : Jvm.MethodName)) ∈ tables_1 := mT 134 rfl
theorem w_135 : (Jvm.Cond.code ({ cls := "java/lang/AbstractStringBuilder", name := "inflateIfNeededFor", desc := "(Ljava/lang/String;)V" } : Jvm.MethodName) jdk_68_method_71_code (2 : Nat) (Option.none : Option Jvm.ClassFile.FieldType)) ∈ tables_1 := mT 135 rfl
theorem w_136 : (Jvm.Cond.methodLink "java/lang/AbstractStringBuilder" (40 : Nat) ({ cls := "java/lang/String", name := "coder", desc := "()B" } : Jvm.MethodName)) ∈ tables_1 := mT 136 rfl
theorem w_137 : (Jvm.Cond.methodLink "java/lang/AbstractStringBuilder" (399 : Nat) ({ cls := "java/lang/String", name := "getBytes", desc := "([BIB)V" } : Jvm.MethodName)) ∈ tables_1 := mT 137 rfl
theorem w_138 : (Jvm.Cond.declares ({ cls := "java/lang/String", name := "getBytes", desc := "([BIB)V" } : Jvm.MethodName)) ∈ tables_1 := mT 138 rfl
theorem w_139 : (Jvm.Cond.instanceMethod ({ cls := "java/lang/String", name := "getBytes", desc := "([BIB)V" } : Jvm.MethodName)) ∈ tables_1 := mT 139 rfl
theorem w_140 : (Jvm.Cond.selects "java/lang/String" ({ cls := "java/lang/String", name := "getBytes", desc := "([BIB)V" } : Jvm.MethodName) ({ cls := "java/lang/String", name := "getBytes", desc := "([BIB)V" } : Jvm.MethodName)) ∈ tables_1 := mT 140 rfl
theorem w_141 : (Jvm.Cond.code ({ cls := "java/lang/String", name := "getBytes", desc := "([BIB)V" } : Jvm.MethodName) jdk_42_method_147_code (4 : Nat) (Option.none : Option Jvm.ClassFile.FieldType)) ∈ tables_1 := mT 141 rfl
theorem w_142 : (Jvm.Cond.methodLink "java/lang/String" (212 : Nat) ({ cls := "java/lang/System", name := "arraycopy", desc := "(Ljava/lang/Object;ILjava/lang/Object;II)V" } : Jvm.MethodName)) ∈ tables_1 := mT 142 rfl
theorem w_143 : (Jvm.Cond.stringLink "com/example/spool/spool/http/HttpError" (38 : Nat) " only.") ∈ tables_1 := mT 143 rfl
theorem w_144 : (Jvm.Cond.methodLink "com/example/spool/spool/http/HttpError" (40 : Nat) ({ cls := "java/lang/StringBuilder", name := "toString", desc := "()Ljava/lang/String;" } : Jvm.MethodName)) ∈ tables_1 := mT 144 rfl
theorem w_145 : (Jvm.Cond.declares ({ cls := "java/lang/StringBuilder", name := "toString", desc := "()Ljava/lang/String;" } : Jvm.MethodName)) ∈ tables_1 := mT 145 rfl
theorem w_146 : (Jvm.Cond.instanceMethod ({ cls := "java/lang/StringBuilder", name := "toString", desc := "()Ljava/lang/String;" } : Jvm.MethodName)) ∈ tables_1 := mT 146 rfl
theorem w_147 : (Jvm.Cond.selects "java/lang/StringBuilder" ({ cls := "java/lang/StringBuilder", name := "toString", desc := "()Ljava/lang/String;" } : Jvm.MethodName) ({ cls := "java/lang/StringBuilder", name := "toString", desc := "()Ljava/lang/String;" } : Jvm.MethodName)) ∈ tables_1 := mT 147 rfl
theorem w_148 : (Jvm.Cond.code ({ cls := "java/lang/StringBuilder", name := "toString", desc := "()Ljava/lang/String;" } : Jvm.MethodName) jdk_67_method_42_code (1 : Nat) (Option.some (Jvm.ClassFile.FieldType.object "java/lang/String"))) ∈ tables_1 := mT 148 rfl
theorem w_149 : (Jvm.Cond.classLink "java/lang/StringBuilder" (18 : Nat) "java/lang/String") ∈ tables_1 := mT 149 rfl
theorem w_150 : (Jvm.Cond.methodLink "java/lang/StringBuilder" (137 : Nat) ({ cls := "java/lang/String", name := "<init>", desc := "(Ljava/lang/StringBuilder;)V" } : Jvm.MethodName)) ∈ tables_1 := mT 150 rfl
theorem w_151 : (Jvm.Cond.instanceMethod ({ cls := "java/lang/String", name := "<init>", desc := "(Ljava/lang/StringBuilder;)V" } : Jvm.MethodName)) ∈ tables_1 := mT 151 rfl
theorem w_152 : (Jvm.Cond.code ({ cls := "java/lang/String", name := "<init>", desc := "(Ljava/lang/StringBuilder;)V" } : Jvm.MethodName) jdk_42_method_53_code (2 : Nat) (Option.none : Option Jvm.ClassFile.FieldType)) ∈ tables_1 := mT 152 rfl
theorem w_153 : (Jvm.Cond.methodLink "java/lang/String" (489 : Nat) ({ cls := "java/lang/String", name := "<init>", desc := "(Ljava/lang/AbstractStringBuilder;Ljava/lang/Void;)V" } : Jvm.MethodName)) ∈ tables_1 := mT 153 rfl
theorem w_154 : (Jvm.Cond.instanceMethod ({ cls := "java/lang/String", name := "<init>", desc := "(Ljava/lang/AbstractStringBuilder;Ljava/lang/Void;)V" } : Jvm.MethodName)) ∈ tables_1 := mT 154 rfl
theorem w_155 : (Jvm.Cond.code ({ cls := "java/lang/String", name := "<init>", desc := "(Ljava/lang/AbstractStringBuilder;Ljava/lang/Void;)V" } : Jvm.MethodName) jdk_42_method_150_code (5 : Nat) (Option.none : Option Jvm.ClassFile.FieldType)) ∈ tables_1 := mT 155 rfl
theorem w_156 : (Jvm.Cond.methodLink "java/lang/String" (552 : Nat) ({ cls := "java/lang/AbstractStringBuilder", name := "getValue", desc := "()[B" } : Jvm.MethodName)) ∈ tables_1 := mT 156 rfl
theorem w_157 : (Jvm.Cond.declares ({ cls := "java/lang/AbstractStringBuilder", name := "getValue", desc := "()[B" } : Jvm.MethodName)) ∈ tables_1 := mT 157 rfl
theorem w_158 : (Jvm.Cond.instanceMethod ({ cls := "java/lang/AbstractStringBuilder", name := "getValue", desc := "()[B" } : Jvm.MethodName)) ∈ tables_1 := mT 158 rfl
theorem w_159 : (Jvm.Cond.selects "java/lang/StringBuilder" ({ cls := "java/lang/AbstractStringBuilder", name := "getValue", desc := "()[B" } : Jvm.MethodName) ({ cls := "java/lang/AbstractStringBuilder", name := "getValue", desc := "()[B" } : Jvm.MethodName)) ∈ tables_1 := mT 159 rfl
theorem w_160 : (Jvm.Cond.code ({ cls := "java/lang/AbstractStringBuilder", name := "getValue", desc := "()[B" } : Jvm.MethodName) jdk_68_method_64_code (1 : Nat) (Option.some (Jvm.ClassFile.FieldType.array Jvm.ClassFile.FieldType.byte))) ∈ tables_1 := mT 160 rfl
theorem w_161 : (Jvm.Cond.methodLink "java/lang/String" (549 : Nat) ({ cls := "java/lang/AbstractStringBuilder", name := "length", desc := "()I" } : Jvm.MethodName)) ∈ tables_1 := mT 161 rfl
theorem w_162 : (Jvm.Cond.declares ({ cls := "java/lang/AbstractStringBuilder", name := "length", desc := "()I" } : Jvm.MethodName)) ∈ tables_1 := mT 162 rfl
theorem w_163 : (Jvm.Cond.instanceMethod ({ cls := "java/lang/AbstractStringBuilder", name := "length", desc := "()I" } : Jvm.MethodName)) ∈ tables_1 := mT 163 rfl
theorem w_164 : (Jvm.Cond.selects "java/lang/StringBuilder" ({ cls := "java/lang/AbstractStringBuilder", name := "length", desc := "()I" } : Jvm.MethodName) ({ cls := "java/lang/StringBuilder", name := "length", desc := "()I" } : Jvm.MethodName)) ∈ tables_1 := mT 164 rfl
theorem w_165 : (Jvm.Cond.instanceMethod ({ cls := "java/lang/StringBuilder", name := "length", desc := "()I" } : Jvm.MethodName)) ∈ tables_1 := mT 165 rfl
theorem w_166 : (Jvm.Cond.code ({ cls := "java/lang/StringBuilder", name := "length", desc := "()I" } : Jvm.MethodName) jdk_67_method_93_code (1 : Nat) (Option.some Jvm.ClassFile.FieldType.int)) ∈ tables_1 := mT 166 rfl
theorem w_167 : (Jvm.Cond.methodLink "java/lang/StringBuilder" (343 : Nat) ({ cls := "java/lang/AbstractStringBuilder", name := "length", desc := "()I" } : Jvm.MethodName)) ∈ tables_1 := mT 167 rfl
theorem w_168 : (Jvm.Cond.code ({ cls := "java/lang/AbstractStringBuilder", name := "length", desc := "()I" } : Jvm.MethodName) jdk_68_method_6_code (1 : Nat) (Option.some Jvm.ClassFile.FieldType.int)) ∈ tables_1 := mT 168 rfl
theorem w_169 : (Jvm.Cond.methodLink "java/lang/String" (1047 : Nat) ({ cls := "java/lang/AbstractStringBuilder", name := "isLatin1", desc := "()Z" } : Jvm.MethodName)) ∈ tables_1 := mT 169 rfl
theorem w_170 : (Jvm.Cond.declares ({ cls := "java/lang/AbstractStringBuilder", name := "isLatin1", desc := "()Z" } : Jvm.MethodName)) ∈ tables_1 := mT 170 rfl
theorem w_171 : (Jvm.Cond.instanceMethod ({ cls := "java/lang/AbstractStringBuilder", name := "isLatin1", desc := "()Z" } : Jvm.MethodName)) ∈ tables_1 := mT 171 rfl
theorem w_172 : (Jvm.Cond.selects "java/lang/StringBuilder" ({ cls := "java/lang/AbstractStringBuilder", name := "isLatin1", desc := "()Z" } : Jvm.MethodName) ({ cls := "java/lang/AbstractStringBuilder", name := "isLatin1", desc := "()Z" } : Jvm.MethodName)) ∈ tables_1 := mT 172 rfl
theorem w_173 : (Jvm.Cond.code ({ cls := "java/lang/AbstractStringBuilder", name := "isLatin1", desc := "()Z" } : Jvm.MethodName) jdk_68_method_68_code (1 : Nat) (Option.some Jvm.ClassFile.FieldType.boolean)) ∈ tables_1 := mT 173 rfl
theorem w_174 : (Jvm.Cond.methodLink "java/lang/String" (54 : Nat) ({ cls := "java/util/Arrays", name := "copyOfRange", desc := "([BII)[B" } : Jvm.MethodName)) ∈ tables_1 := mT 174 rfl
theorem w_175 : (Jvm.Cond.static ({ cls := "java/util/Arrays", name := "copyOfRange", desc := "([BII)[B" } : Jvm.MethodName)) ∈ tables_1 := mT 175 rfl
theorem w_176 : (Jvm.Cond.code ({ cls := "java/util/Arrays", name := "copyOfRange", desc := "([BII)[B" } : Jvm.MethodName) jdk_65_method_132_code (3 : Nat) (Option.some (Jvm.ClassFile.FieldType.array Jvm.ClassFile.FieldType.byte))) ∈ tables_1 := mT 176 rfl
theorem w_177 : (Jvm.Cond.methodLink "java/util/Arrays" (339 : Nat) ({ cls := "java/util/Arrays", name := "copyOfRangeByte", desc := "([BII)[B" } : Jvm.MethodName)) ∈ tables_1 := mT 177 rfl
theorem w_178 : (Jvm.Cond.static ({ cls := "java/util/Arrays", name := "copyOfRangeByte", desc := "([BII)[B" } : Jvm.MethodName)) ∈ tables_1 := mT 178 rfl
theorem w_179 : (Jvm.Cond.code ({ cls := "java/util/Arrays", name := "copyOfRangeByte", desc := "([BII)[B" } : Jvm.MethodName) jdk_65_method_133_code (5 : Nat) (Option.some (Jvm.ClassFile.FieldType.array Jvm.ClassFile.FieldType.byte))) ∈ tables_1 := mT 179 rfl
theorem w_180 : (Jvm.Cond.methodLink "java/util/Arrays" (343 : Nat) ({ cls := "java/util/Arrays", name := "checkLength", desc := "(II)V" } : Jvm.MethodName)) ∈ tables_1 := mT 180 rfl
theorem w_181 : (Jvm.Cond.static ({ cls := "java/util/Arrays", name := "checkLength", desc := "(II)V" } : Jvm.MethodName)) ∈ tables_1 := mT 181 rfl
theorem w_182 : (Jvm.Cond.code ({ cls := "java/util/Arrays", name := "checkLength", desc := "(II)V" } : Jvm.MethodName) jdk_65_method_131_code (2 : Nat) (Option.none : Option Jvm.ClassFile.FieldType)) ∈ tables_1 := mT 182 rfl
theorem w_183 : (Jvm.Cond.methodLink "com/example/spool/spool/http/HttpError" (5 : Nat) ({ cls := "com/example/spool/spool/http/HttpError", name := "<init>", desc := "(ILjava/lang/String;Ljava/lang/String;)V" } : Jvm.MethodName)) ∈ tables_1 := mT 183 rfl
theorem w_184 : (Jvm.Cond.instanceMethod ({ cls := "com/example/spool/spool/http/HttpError", name := "<init>", desc := "(ILjava/lang/String;Ljava/lang/String;)V" } : Jvm.MethodName)) ∈ tables_1 := mT 184 rfl
theorem w_185 : (Jvm.Cond.code ({ cls := "com/example/spool/spool/http/HttpError", name := "<init>", desc := "(ILjava/lang/String;Ljava/lang/String;)V" } : Jvm.MethodName) prog_2_method_9_code (4 : Nat) (Option.none : Option Jvm.ClassFile.FieldType)) ∈ tables_1 := mT 185 rfl
theorem w_186 : (Jvm.Cond.methodLink "com/example/spool/spool/http/HttpError" (48 : Nat) ({ cls := "java/lang/Exception", name := "<init>", desc := "(Ljava/lang/String;Ljava/lang/Throwable;ZZ)V" } : Jvm.MethodName)) ∈ tables_1 := mT 186 rfl
theorem w_187 : (Jvm.Cond.instanceMethod ({ cls := "java/lang/Exception", name := "<init>", desc := "(Ljava/lang/String;Ljava/lang/Throwable;ZZ)V" } : Jvm.MethodName)) ∈ tables_1 := mT 187 rfl
theorem w_189 : (Jvm.Cond.initialized "java/lang/Exception") ∈ tables_1 := mT 189 rfl
theorem w_190 : (Jvm.Cond.code ({ cls := "java/lang/Exception", name := "<init>", desc := "(Ljava/lang/String;Ljava/lang/Throwable;ZZ)V" } : Jvm.MethodName) jdk_59_method_5_code (5 : Nat) (Option.none : Option Jvm.ClassFile.FieldType)) ∈ tables_1 := mT 190 rfl
theorem w_191 : (Jvm.Cond.methodLink "java/lang/Exception" (16 : Nat) ({ cls := "java/lang/Throwable", name := "<init>", desc := "(Ljava/lang/String;Ljava/lang/Throwable;ZZ)V" } : Jvm.MethodName)) ∈ tables_1 := mT 191 rfl
theorem w_192 : (Jvm.Cond.instanceMethod ({ cls := "java/lang/Throwable", name := "<init>", desc := "(Ljava/lang/String;Ljava/lang/Throwable;ZZ)V" } : Jvm.MethodName)) ∈ tables_1 := mT 192 rfl
theorem w_195 : (Jvm.Cond.initialized "java/lang/Throwable") ∈ tables_1 := mT 195 rfl
theorem w_196 : (Jvm.Cond.code ({ cls := "java/lang/Throwable", name := "<init>", desc := "(Ljava/lang/String;Ljava/lang/Throwable;ZZ)V" } : Jvm.MethodName) jdk_78_method_5_code (5 : Nat) (Option.none : Option Jvm.ClassFile.FieldType)) ∈ tables_1 := mT 196 rfl
theorem w_197 : (Jvm.Cond.methodLink "java/lang/Throwable" (1 : Nat) ({ cls := "java/lang/Object", name := "<init>", desc := "()V" } : Jvm.MethodName)) ∈ tables_1 := mT 197 rfl
theorem w_198 : (Jvm.Cond.fieldLink "java/lang/Throwable" (7 : Nat) "java/lang/Throwable" "cause" "Ljava/lang/Throwable;") ∈ tables_1 := mT 198 rfl
theorem w_199 : (Jvm.Cond.lays "com/example/spool/spool/http/HttpError" "java/lang/Throwable" "cause" "Ljava/lang/Throwable;") ∈ tables_1 := mT 199 rfl
theorem w_200 : (Jvm.Cond.fieldLink "java/lang/Throwable" (13 : Nat) "java/lang/Throwable" "UNASSIGNED_STACK" "[Ljava/lang/StackTraceElement;") ∈ tables_1 := mT 200 rfl
theorem w_201 : (Jvm.Cond.fieldLink "java/lang/Throwable" (17 : Nat) "java/lang/Throwable" "stackTrace" "[Ljava/lang/StackTraceElement;") ∈ tables_1 := mT 201 rfl
theorem w_202 : (Jvm.Cond.lays "com/example/spool/spool/http/HttpError" "java/lang/Throwable" "stackTrace" "[Ljava/lang/StackTraceElement;") ∈ tables_1 := mT 202 rfl
theorem w_203 : (Jvm.Cond.fieldLink "java/lang/Throwable" (20 : Nat) "java/lang/Throwable" "SUPPRESSED_SENTINEL" "Ljava/util/List;") ∈ tables_1 := mT 203 rfl
theorem w_204 : (Jvm.Cond.fieldLink "java/lang/Throwable" (24 : Nat) "java/lang/Throwable" "suppressedExceptions" "Ljava/util/List;") ∈ tables_1 := mT 204 rfl
theorem w_205 : (Jvm.Cond.lays "com/example/spool/spool/http/HttpError" "java/lang/Throwable" "suppressedExceptions" "Ljava/util/List;") ∈ tables_1 := mT 205 rfl
theorem w_206 : (Jvm.Cond.fieldLink "java/lang/Throwable" (31 : Nat) "java/lang/Throwable" "detailMessage" "Ljava/lang/String;") ∈ tables_1 := mT 206 rfl
theorem w_207 : (Jvm.Cond.lays "com/example/spool/spool/http/HttpError" "java/lang/Throwable" "detailMessage" "Ljava/lang/String;") ∈ tables_1 := mT 207 rfl
theorem w_208 : (Jvm.Cond.fieldLink "com/example/spool/spool/http/HttpError" (53 : Nat) "com/example/spool/spool/http/HttpError" "_status" "I") ∈ tables_1 := mT 208 rfl
theorem w_209 : (Jvm.Cond.laysFinal "com/example/spool/spool/http/HttpError" "com/example/spool/spool/http/HttpError" "_status" "I") ∈ tables_1 := mT 209 rfl
theorem w_210 : (Jvm.Cond.fieldLink "com/example/spool/spool/http/HttpError" (57 : Nat) "com/example/spool/spool/http/HttpError" "_code" "Ljava/lang/String;") ∈ tables_1 := mT 210 rfl
theorem w_211 : (Jvm.Cond.laysFinal "com/example/spool/spool/http/HttpError" "com/example/spool/spool/http/HttpError" "_code" "Ljava/lang/String;") ∈ tables_1 := mT 211 rfl
theorem w_212 : (Jvm.Cond.fieldLink "com/example/spool/spool/http/HttpError" (44 : Nat) "com/example/spool/spool/http/HttpError" "_allowed" "Ljava/lang/String;") ∈ tables_1 := mT 212 rfl
theorem w_213 : (Jvm.Cond.lays "com/example/spool/spool/http/HttpError" "com/example/spool/spool/http/HttpError" "_allowed" "Ljava/lang/String;") ∈ tables_1 := mT 213 rfl
theorem w_214 : (Jvm.Cond.methodLink "com/example/spool/spool/http/HttpErrorMethodNotAllowedPinLaw" (27 : Nat) ({ cls := "com/example/spool/spool/http/HttpError", name := "allowed", desc := "()Ljava/lang/String;" } : Jvm.MethodName)) ∈ tables_1 := mT 214 rfl
theorem w_215 : (Jvm.Cond.declares ({ cls := "com/example/spool/spool/http/HttpError", name := "allowed", desc := "()Ljava/lang/String;" } : Jvm.MethodName)) ∈ tables_1 := mT 215 rfl
theorem w_216 : (Jvm.Cond.instanceMethod ({ cls := "com/example/spool/spool/http/HttpError", name := "allowed", desc := "()Ljava/lang/String;" } : Jvm.MethodName)) ∈ tables_1 := mT 216 rfl
theorem w_217 : (Jvm.Cond.selects "com/example/spool/spool/http/HttpError" ({ cls := "com/example/spool/spool/http/HttpError", name := "allowed", desc := "()Ljava/lang/String;" } : Jvm.MethodName) ({ cls := "com/example/spool/spool/http/HttpError", name := "allowed", desc := "()Ljava/lang/String;" } : Jvm.MethodName)) ∈ tables_1 := mT 217 rfl
theorem w_218 : (Jvm.Cond.code ({ cls := "com/example/spool/spool/http/HttpError", name := "allowed", desc := "()Ljava/lang/String;" } : Jvm.MethodName) prog_2_method_12_code (1 : Nat) (Option.some (Jvm.ClassFile.FieldType.object "java/lang/String"))) ∈ tables_1 := mT 218 rfl
theorem w_219 : (Jvm.Cond.methodLink "com/example/spool/spool/http/HttpErrorMethodNotAllowedPinLaw" (31 : Nat) ({ cls := "com/example/spool/spool/http/HttpError", name := "getMessage", desc := "()Ljava/lang/String;" } : Jvm.MethodName)) ∈ tables_1 := mT 219 rfl
theorem w_220 : (Jvm.Cond.sameMethod "com/example/spool/spool/http/HttpError" "java/lang/Throwable" "getMessage" "()Ljava/lang/String;") ∈ tables_1 := mT 220 rfl
theorem w_221 : (Jvm.Cond.declares ({ cls := "java/lang/Throwable", name := "getMessage", desc := "()Ljava/lang/String;" } : Jvm.MethodName)) ∈ tables_1 := mT 221 rfl
theorem w_222 : (Jvm.Cond.instanceMethod ({ cls := "java/lang/Throwable", name := "getMessage", desc := "()Ljava/lang/String;" } : Jvm.MethodName)) ∈ tables_1 := mT 222 rfl
theorem w_223 : (Jvm.Cond.selects "com/example/spool/spool/http/HttpError" ({ cls := "com/example/spool/spool/http/HttpError", name := "getMessage", desc := "()Ljava/lang/String;" } : Jvm.MethodName) ({ cls := "java/lang/Throwable", name := "getMessage", desc := "()Ljava/lang/String;" } : Jvm.MethodName)) ∈ tables_1 := mT 223 rfl
theorem w_224 : (Jvm.Cond.code ({ cls := "java/lang/Throwable", name := "getMessage", desc := "()Ljava/lang/String;" } : Jvm.MethodName) jdk_78_method_6_code (1 : Nat) (Option.some (Jvm.ClassFile.FieldType.object "java/lang/String"))) ∈ tables_1 := mT 224 rfl
theorem w_225 : (Jvm.Cond.methodLink "com/example/spool/spool/http/HttpErrorMethodNotAllowedPinLaw" (34 : Nat) ({ cls := "com/example/spool/spool/http/HttpError", name := "status", desc := "()I" } : Jvm.MethodName)) ∈ tables_1 := mT 225 rfl
theorem w_226 : (Jvm.Cond.declares ({ cls := "com/example/spool/spool/http/HttpError", name := "status", desc := "()I" } : Jvm.MethodName)) ∈ tables_1 := mT 226 rfl
theorem w_227 : (Jvm.Cond.instanceMethod ({ cls := "com/example/spool/spool/http/HttpError", name := "status", desc := "()I" } : Jvm.MethodName)) ∈ tables_1 := mT 227 rfl
theorem w_228 : (Jvm.Cond.selects "com/example/spool/spool/http/HttpError" ({ cls := "com/example/spool/spool/http/HttpError", name := "status", desc := "()I" } : Jvm.MethodName) ({ cls := "com/example/spool/spool/http/HttpError", name := "status", desc := "()I" } : Jvm.MethodName)) ∈ tables_1 := mT 228 rfl
theorem w_229 : (Jvm.Cond.code ({ cls := "com/example/spool/spool/http/HttpError", name := "status", desc := "()I" } : Jvm.MethodName) prog_2_method_10_code (1 : Nat) (Option.some Jvm.ClassFile.FieldType.int)) ∈ tables_1 := mT 229 rfl
theorem w_230 : (Jvm.Cond.stringLink "com/example/spool/spool/http/HttpErrorMethodNotAllowedPinLaw" (38 : Nat) "method_not_allowed") ∈ tables_1 := mT 230 rfl
theorem w_231 : (Jvm.Cond.methodLink "com/example/spool/spool/http/HttpErrorMethodNotAllowedPinLaw" (40 : Nat) ({ cls := "com/example/spool/spool/http/HttpError", name := "code", desc := "()Ljava/lang/String;" } : Jvm.MethodName)) ∈ tables_1 := mT 231 rfl
theorem w_232 : (Jvm.Cond.declares ({ cls := "com/example/spool/spool/http/HttpError", name := "code", desc := "()Ljava/lang/String;" } : Jvm.MethodName)) ∈ tables_1 := mT 232 rfl
theorem w_233 : (Jvm.Cond.instanceMethod ({ cls := "com/example/spool/spool/http/HttpError", name := "code", desc := "()Ljava/lang/String;" } : Jvm.MethodName)) ∈ tables_1 := mT 233 rfl
theorem w_234 : (Jvm.Cond.selects "com/example/spool/spool/http/HttpError" ({ cls := "com/example/spool/spool/http/HttpError", name := "code", desc := "()Ljava/lang/String;" } : Jvm.MethodName) ({ cls := "com/example/spool/spool/http/HttpError", name := "code", desc := "()Ljava/lang/String;" } : Jvm.MethodName)) ∈ tables_1 := mT 234 rfl
theorem w_235 : (Jvm.Cond.code ({ cls := "com/example/spool/spool/http/HttpError", name := "code", desc := "()Ljava/lang/String;" } : Jvm.MethodName) prog_2_method_11_code (1 : Nat) (Option.some (Jvm.ClassFile.FieldType.object "java/lang/String"))) ∈ tables_1 := mT 235 rfl
theorem w_236 : (Jvm.Cond.methodLink "com/example/spool/spool/http/HttpErrorMethodNotAllowedPinLaw" (43 : Nat) ({ cls := "java/lang/String", name := "equals", desc := "(Ljava/lang/Object;)Z" } : Jvm.MethodName)) ∈ tables_1 := mT 236 rfl
theorem w_237 : (Jvm.Cond.declares ({ cls := "java/lang/String", name := "equals", desc := "(Ljava/lang/Object;)Z" } : Jvm.MethodName)) ∈ tables_1 := mT 237 rfl
theorem w_238 : (Jvm.Cond.instanceMethod ({ cls := "java/lang/String", name := "equals", desc := "(Ljava/lang/Object;)Z" } : Jvm.MethodName)) ∈ tables_1 := mT 238 rfl
theorem w_239 : (Jvm.Cond.selects "java/lang/String" ({ cls := "java/lang/String", name := "equals", desc := "(Ljava/lang/Object;)Z" } : Jvm.MethodName) ({ cls := "java/lang/String", name := "equals", desc := "(Ljava/lang/Object;)Z" } : Jvm.MethodName)) ∈ tables_1 := mT 239 rfl
theorem w_240 : (Jvm.Cond.code ({ cls := "java/lang/String", name := "equals", desc := "(Ljava/lang/Object;)Z" } : Jvm.MethodName) jdk_42_method_66_code (3 : Nat) (Option.some Jvm.ClassFile.FieldType.boolean)) ∈ tables_1 := mT 240 rfl
theorem w_241 : (Jvm.Cond.methodLink "java/lang/String" (541 : Nat) ({ cls := "java/lang/StringLatin1", name := "equals", desc := "([B[B)Z" } : Jvm.MethodName)) ∈ tables_1 := mT 241 rfl
theorem w_242 : (Jvm.Cond.static ({ cls := "java/lang/StringLatin1", name := "equals", desc := "([B[B)Z" } : Jvm.MethodName)) ∈ tables_1 := mT 242 rfl
theorem w_243 : (Jvm.Cond.code ({ cls := "java/lang/StringLatin1", name := "equals", desc := "([B[B)Z" } : Jvm.MethodName) jdk_43_method_13_code (3 : Nat) (Option.some Jvm.ClassFile.FieldType.boolean)) ∈ tables_1 := mT 243 rfl
theorem w_244 : (Jvm.Cond.stringLink "com/example/spool/spool/http/HttpErrorMethodNotAllowedPinLaw" (8 : Nat) "") ∈ tables_1 := mT 244 rfl
theorem w_245 : (Jvm.Cond.stringLink "com/example/spool/spool/http/HttpErrorMethodNotAllowedPinLaw" (10 : Nat) "This path answers  only.") ∈ tables_1 := mT 245 rfl
theorem w_246 : (Jvm.Cond.methodLink "java/lang/StringUTF16" (119 : Nat) ({ cls := "java/lang/StringUTF16", name := "toBytes", desc := "([CII)[B" } : Jvm.MethodName)) ∈ tables_1 := mT 246 rfl
theorem w_247 : (Jvm.Cond.static ({ cls := "java/lang/StringUTF16", name := "toBytes", desc := "([CII)[B" } : Jvm.MethodName)) ∈ tables_1 := mT 247 rfl
theorem w_248 : (Jvm.Cond.code ({ cls := "java/lang/StringUTF16", name := "toBytes", desc := "([CII)[B" } : Jvm.MethodName) jdk_52_method_14_code (5 : Nat) (Option.some (Jvm.ClassFile.FieldType.array Jvm.ClassFile.FieldType.byte))) ∈ tables_1 := mT 248 rfl
theorem w_249 : (Jvm.Cond.methodLink "java/lang/StringUTF16" (107 : Nat) ({ cls := "java/lang/StringUTF16", name := "newBytesFor", desc := "(I)[B" } : Jvm.MethodName)) ∈ tables_1 := mT 249 rfl
theorem w_250 : (Jvm.Cond.static ({ cls := "java/lang/StringUTF16", name := "newBytesFor", desc := "(I)[B" } : Jvm.MethodName)) ∈ tables_1 := mT 250 rfl
theorem w_251 : (Jvm.Cond.code ({ cls := "java/lang/StringUTF16", name := "newBytesFor", desc := "(I)[B" } : Jvm.MethodName) jdk_52_method_2_code (1 : Nat) (Option.some (Jvm.ClassFile.FieldType.array Jvm.ClassFile.FieldType.byte))) ∈ tables_1 := mT 251 rfl
theorem w_252 : (Jvm.Cond.methodLink "java/lang/StringUTF16" (11 : Nat) ({ cls := "java/lang/StringUTF16", name := "newBytesLength", desc := "(I)I" } : Jvm.MethodName)) ∈ tables_1 := mT 252 rfl
theorem w_253 : (Jvm.Cond.static ({ cls := "java/lang/StringUTF16", name := "newBytesLength", desc := "(I)I" } : Jvm.MethodName)) ∈ tables_1 := mT 253 rfl
theorem w_254 : (Jvm.Cond.code ({ cls := "java/lang/StringUTF16", name := "newBytesLength", desc := "(I)I" } : Jvm.MethodName) jdk_52_method_3_code (1 : Nat) (Option.some Jvm.ClassFile.FieldType.int)) ∈ tables_1 := mT 254 rfl
theorem w_255 : (Jvm.Cond.constant "java/lang/StringUTF16" (20 : Nat) (1073741823 : Int32)) ∈ tables_1 := mT 255 rfl
theorem w_256 : (Jvm.Cond.methodLink "java/lang/StringUTF16" (111 : Nat) ({ cls := "java/lang/StringUTF16", name := "putChar", desc := "([BII)V" } : Jvm.MethodName)) ∈ tables_1 := mT 256 rfl
theorem w_257 : (Jvm.Cond.static ({ cls := "java/lang/StringUTF16", name := "putChar", desc := "([BII)V" } : Jvm.MethodName)) ∈ tables_1 := mT 257 rfl
theorem w_258 : (Jvm.Cond.code ({ cls := "java/lang/StringUTF16", name := "putChar", desc := "([BII)V" } : Jvm.MethodName) jdk_52_method_4_code (3 : Nat) (Option.none : Option Jvm.ClassFile.FieldType)) ∈ tables_1 := mT 258 rfl
theorem w_259 : (Jvm.Cond.fieldLink "java/lang/StringUTF16" (44 : Nat) "java/lang/StringUTF16" "$assertionsDisabled" "Z") ∈ tables_1 := mT 259 rfl
theorem w_260 : (Jvm.Cond.fieldLink "java/lang/StringUTF16" (59 : Nat) "java/lang/StringUTF16" "HI_BYTE_SHIFT" "I") ∈ tables_1 := mT 260 rfl
theorem w_261 : (Jvm.Cond.fieldLink "java/lang/StringUTF16" (63 : Nat) "java/lang/StringUTF16" "LO_BYTE_SHIFT" "I") ∈ tables_1 := mT 261 rfl
theorem w_262 : (Jvm.Cond.methodLink "java/lang/StringUTF16" (71 : Nat) ({ cls := "java/lang/StringUTF16", name := "getChar", desc := "([BI)C" } : Jvm.MethodName)) ∈ tables_1 := mT 262 rfl
theorem w_263 : (Jvm.Cond.static ({ cls := "java/lang/StringUTF16", name := "getChar", desc := "([BI)C" } : Jvm.MethodName)) ∈ tables_1 := mT 263 rfl
theorem w_264 : (Jvm.Cond.code ({ cls := "java/lang/StringUTF16", name := "getChar", desc := "([BI)C" } : Jvm.MethodName) jdk_52_method_5_code (2 : Nat) (Option.some Jvm.ClassFile.FieldType.char)) ∈ tables_1 := mT 264 rfl
theorem w_265 : (Jvm.Cond.methodLink "java/lang/AbstractStringBuilder" (195 : Nat) ({ cls := "java/lang/AbstractStringBuilder", name := "inflate", desc := "()V" } : Jvm.MethodName)) ∈ tables_1 := mT 265 rfl
theorem w_266 : (Jvm.Cond.instanceMethod ({ cls := "java/lang/AbstractStringBuilder", name := "inflate", desc := "()V" } : Jvm.MethodName)) ∈ tables_1 := mT 266 rfl
theorem w_268 : (Jvm.Cond.selects "java/lang/StringBuilder" ({ cls := "java/lang/AbstractStringBuilder", name := "inflate", desc := "()V" } : Jvm.MethodName) ({ cls := "java/lang/AbstractStringBuilder", name := "inflate", desc := "()V" } : Jvm.MethodName)) ∈ tables_1 := mT 268 rfl
theorem w_269 : (Jvm.Cond.code ({ cls := "java/lang/AbstractStringBuilder", name := "inflate", desc := "()V" } : Jvm.MethodName) jdk_68_method_11_code (2 : Nat) (Option.none : Option Jvm.ClassFile.FieldType)) ∈ tables_1 := mT 269 rfl
theorem w_270 : (Jvm.Cond.methodLink "java/lang/AbstractStringBuilder" (83 : Nat) ({ cls := "java/lang/AbstractStringBuilder", name := "isLatin1", desc := "()Z" } : Jvm.MethodName)) ∈ tables_1 := mT 270 rfl
theorem w_271 : (Jvm.Cond.methodLink "java/lang/AbstractStringBuilder" (26 : Nat) ({ cls := "java/lang/StringUTF16", name := "newBytesFor", desc := "(I)[B" } : Jvm.MethodName)) ∈ tables_1 := mT 271 rfl
theorem w_272 : (Jvm.Cond.methodLink "java/lang/AbstractStringBuilder" (125 : Nat) ({ cls := "java/lang/StringLatin1", name := "inflate", desc := "([BI[BII)V" } : Jvm.MethodName)) ∈ tables_1 := mT 272 rfl
theorem w_273 : (Jvm.Cond.static ({ cls := "java/lang/StringLatin1", name := "inflate", desc := "([BI[BII)V" } : Jvm.MethodName)) ∈ tables_1 := mT 273 rfl
theorem w_274 : (Jvm.Cond.code ({ cls := "java/lang/StringLatin1", name := "inflate", desc := "([BI[BII)V" } : Jvm.MethodName) jdk_43_method_50_code (5 : Nat) (Option.none : Option Jvm.ClassFile.FieldType)) ∈ tables_1 := mT 274 rfl
theorem w_275 : (Jvm.Cond.methodLink "java/lang/StringLatin1" (240 : Nat) ({ cls := "java/lang/StringUTF16", name := "inflate", desc := "([BI[BII)V" } : Jvm.MethodName)) ∈ tables_1 := mT 275 rfl
theorem w_276 : (Jvm.Cond.static ({ cls := "java/lang/StringUTF16", name := "inflate", desc := "([BI[BII)V" } : Jvm.MethodName)) ∈ tables_1 := mT 276 rfl
theorem w_277 : (Jvm.Cond.code ({ cls := "java/lang/StringUTF16", name := "inflate", desc := "([BI[BII)V" } : Jvm.MethodName) jdk_52_method_86_code (6 : Nat) (Option.none : Option Jvm.ClassFile.FieldType)) ∈ tables_1 := mT 277 rfl
theorem w_278 : (Jvm.Cond.methodLink "java/lang/StringUTF16" (173 : Nat) ({ cls := "java/lang/StringUTF16", name := "checkBoundsOffCount", desc := "(II[B)V" } : Jvm.MethodName)) ∈ tables_1 := mT 278 rfl
theorem w_279 : (Jvm.Cond.static ({ cls := "java/lang/StringUTF16", name := "checkBoundsOffCount", desc := "(II[B)V" } : Jvm.MethodName)) ∈ tables_1 := mT 279 rfl
theorem w_280 : (Jvm.Cond.code ({ cls := "java/lang/StringUTF16", name := "checkBoundsOffCount", desc := "(II[B)V" } : Jvm.MethodName) jdk_52_method_94_code (3 : Nat) (Option.none : Option Jvm.ClassFile.FieldType)) ∈ tables_1 := mT 280 rfl
theorem w_281 : (Jvm.Cond.methodLink "java/lang/StringUTF16" (48 : Nat) ({ cls := "java/lang/StringUTF16", name := "length", desc := "([B)I" } : Jvm.MethodName)) ∈ tables_1 := mT 281 rfl
theorem w_282 : (Jvm.Cond.static ({ cls := "java/lang/StringUTF16", name := "length", desc := "([B)I" } : Jvm.MethodName)) ∈ tables_1 := mT 282 rfl
theorem w_283 : (Jvm.Cond.code ({ cls := "java/lang/StringUTF16", name := "length", desc := "([B)I" } : Jvm.MethodName) jdk_52_method_6_code (1 : Nat) (Option.some Jvm.ClassFile.FieldType.int)) ∈ tables_1 := mT 283 rfl
theorem w_284 : (Jvm.Cond.methodLink "java/lang/StringUTF16" (419 : Nat) ({ cls := "java/lang/String", name := "checkBoundsOffCount", desc := "(III)I" } : Jvm.MethodName)) ∈ tables_1 := mT 284 rfl
theorem w_285 : (Jvm.Cond.static ({ cls := "java/lang/String", name := "checkBoundsOffCount", desc := "(III)I" } : Jvm.MethodName)) ∈ tables_1 := mT 285 rfl
theorem w_286 : (Jvm.Cond.code ({ cls := "java/lang/String", name := "checkBoundsOffCount", desc := "(III)I" } : Jvm.MethodName) jdk_42_method_157_code (3 : Nat) (Option.some Jvm.ClassFile.FieldType.int)) ∈ tables_1 := mT 286 rfl
theorem w_287 : (Jvm.Cond.fieldLink "java/lang/String" (1053 : Nat) "jdk/internal/util/Preconditions" "SIOOBE_FORMATTER" "Ljava/util/function/BiFunction;") ∈ tables_1 := mT 287 rfl
theorem w_288 : (Jvm.Cond.initialized "jdk/internal/util/Preconditions") ∈ tables_1 := mT 288 rfl
theorem w_289 : (Jvm.Cond.methodLink "java/lang/String" (1065 : Nat) ({ cls := "jdk/internal/util/Preconditions", name := "checkFromIndexSize", desc := "(IIILjava/util/function/BiFunction;)I" } : Jvm.MethodName)) ∈ tables_1 := mT 289 rfl
theorem w_290 : (Jvm.Cond.static ({ cls := "jdk/internal/util/Preconditions", name := "checkFromIndexSize", desc := "(IIILjava/util/function/BiFunction;)I" } : Jvm.MethodName)) ∈ tables_1 := mT 290 rfl
theorem w_291 : (Jvm.Cond.code ({ cls := "jdk/internal/util/Preconditions", name := "checkFromIndexSize", desc := "(IIILjava/util/function/BiFunction;)I" } : Jvm.MethodName) jdk_41_method_13_code (4 : Nat) (Option.some Jvm.ClassFile.FieldType.int)) ∈ tables_1 := mT 291 rfl
theorem w_292 : (Jvm.Cond.methodLink "java/lang/String" (106 : Nat) ({ cls := "java/lang/StringLatin1", name := "inflate", desc := "([BI[BII)V" } : Jvm.MethodName)) ∈ tables_1 := mT 292 rfl
theorem w_293 : (Jvm.Cond.fieldLink "java/lang/String" (1048 : Nat) "java/lang/AbstractStringBuilder" "maybeLatin1" "Z") ∈ tables_1 := mT 293 rfl
theorem w_294 : (Jvm.Cond.lays "java/lang/StringBuilder" "java/lang/AbstractStringBuilder" "maybeLatin1" "Z") ∈ tables_1 := mT 294 rfl
theorem w_295 : (Jvm.Cond.methodLink "java/lang/String" (1021 : Nat) ({ cls := "java/lang/StringUTF16", name := "toBytes", desc := "(C)[B" } : Jvm.MethodName)) ∈ tables_1 := mT 295 rfl
theorem w_296 : (Jvm.Cond.static ({ cls := "java/lang/StringUTF16", name := "toBytes", desc := "(C)[B" } : Jvm.MethodName)) ∈ tables_1 := mT 296 rfl
theorem w_297 : (Jvm.Cond.code ({ cls := "java/lang/StringUTF16", name := "toBytes", desc := "(C)[B" } : Jvm.MethodName) jdk_52_method_24_code (2 : Nat) (Option.some (Jvm.ClassFile.FieldType.array Jvm.ClassFile.FieldType.byte))) ∈ tables_1 := mT 297 rfl
theorem pn_java_lang_StringLatin1 : plainName "java/lang/StringLatin1" = true := by first | (simp [plainName, overriddenIn]; done) | decide +kernel
abbrev kb45 := jdk_43_method_13_code
theorem d45_0 : decode kb45 0 = .ok (.aload_n 0, 1) := by decide +kernel
theorem d45_1 : decode kb45 1 = .ok (.arraylength, 1) := by decide +kernel
theorem d45_2 : decode kb45 2 = .ok (.aload_n 1, 1) := by decide +kernel
theorem d45_3 : decode kb45 3 = .ok (.arraylength, 1) := by decide +kernel
theorem d45_4 : decode kb45 4 = .ok (.if_icmp .ne 30, 3) := by decide +kernel
theorem d45_7 : decode kb45 7 = .ok (.iconst 0, 1) := by decide +kernel
theorem d45_8 : decode kb45 8 = .ok (.istore_n 2, 1) := by decide +kernel
theorem d45_9 : decode kb45 9 = .ok (.iload_n 2, 1) := by decide +kernel
theorem d45_10 : decode kb45 10 = .ok (.aload_n 0, 1) := by decide +kernel
theorem d45_11 : decode kb45 11 = .ok (.arraylength, 1) := by decide +kernel
theorem d45_12 : decode kb45 12 = .ok (.if_icmp .ge 20, 3) := by decide +kernel
theorem d45_32 : decode kb45 32 = .ok (.iconst 1, 1) := by decide +kernel
theorem d45_33 : decode kb45 33 = .ok (.ireturn, 1) := by decide +kernel
theorem d45_15 : decode kb45 15 = .ok (.aload_n 0, 1) := by decide +kernel
theorem d45_16 : decode kb45 16 = .ok (.iload_n 2, 1) := by decide +kernel
theorem d45_17 : decode kb45 17 = .ok (.baload, 1) := by decide +kernel
theorem d45_18 : decode kb45 18 = .ok (.aload_n 1, 1) := by decide +kernel
theorem d45_19 : decode kb45 19 = .ok (.iload_n 2, 1) := by decide +kernel
theorem d45_20 : decode kb45 20 = .ok (.baload, 1) := by decide +kernel
theorem d45_21 : decode kb45 21 = .ok (.if_icmp .eq 5, 3) := by decide +kernel
theorem d45_26 : decode kb45 26 = .ok (.iinc 2 1, 3) := by decide +kernel
theorem d45_29 : decode kb45 29 = .ok (.goto (-20), 3) := by decide +kernel
theorem pn_java_lang_StringUTF16 : plainName "java/lang/StringUTF16" = true := by first | (simp [plainName, overriddenIn]; done) | decide +kernel
abbrev kb9 := jdk_52_method_21_code
theorem d9_0 : decode kb9 0 = .ok (.iconst 0, 1) := by decide +kernel
theorem d9_1 : decode kb9 1 = .ok (.istore 5, 2) := by decide +kernel
theorem d9_3 : decode kb9 3 = .ok (.iload 5, 2) := by decide +kernel
theorem d9_5 : decode kb9 5 = .ok (.iload 4, 2) := by decide +kernel
theorem d9_7 : decode kb9 7 = .ok (.if_icmp .ge 37, 3) := by decide +kernel
theorem d9_44 : decode kb9 44 = .ok (.iload 4, 2) := by decide +kernel
theorem d9_46 : decode kb9 46 = .ok (.ireturn, 1) := by decide +kernel
theorem d9_10 : decode kb9 10 = .ok (.aload_n 0, 1) := by decide +kernel
theorem d9_11 : decode kb9 11 = .ok (.iload_n 1, 1) := by decide +kernel
theorem d9_12 : decode kb9 12 = .ok (.caload, 1) := by decide +kernel
theorem d9_13 : decode kb9 13 = .ok (.istore 6, 2) := by decide +kernel
theorem d9_15 : decode kb9 15 = .ok (.iload 6, 2) := by decide +kernel
theorem d9_17 : decode kb9 17 = .ok (.sipush 255, 3) := by decide +kernel
theorem d9_20 : decode kb9 20 = .ok (.if_icmp .le 6, 3) := by decide +kernel
theorem d9_23 : decode kb9 23 = .ok (.iload 5, 2) := by decide +kernel
theorem d9_25 : decode kb9 25 = .ok (.ireturn, 1) := by decide +kernel
theorem d9_26 : decode kb9 26 = .ok (.aload_n 2, 1) := by decide +kernel
theorem d9_27 : decode kb9 27 = .ok (.iload_n 3, 1) := by decide +kernel
theorem d9_28 : decode kb9 28 = .ok (.iload 6, 2) := by decide +kernel
theorem d9_30 : decode kb9 30 = .ok (.i2b, 1) := by decide +kernel
theorem d9_31 : decode kb9 31 = .ok (.bastore, 1) := by decide +kernel
theorem d9_32 : decode kb9 32 = .ok (.iinc 1 1, 3) := by decide +kernel
theorem d9_35 : decode kb9 35 = .ok (.iinc 3 1, 3) := by decide +kernel
theorem d9_38 : decode kb9 38 = .ok (.iinc 5 1, 3) := by decide +kernel
theorem d9_41 : decode kb9 41 = .ok (.goto (-38), 3) := by decide +kernel
abbrev kb49 := jdk_52_method_4_code
theorem d49_0 : decode kb49 0 = .ok (.getstatic 44, 3) := by decide +kernel
theorem d49_3 : decode kb49 3 = .ok (.ifCond .ne 25, 3) := by decide +kernel
theorem d49_28 : decode kb49 28 = .ok (.iload_n 1, 1) := by decide +kernel
theorem d49_29 : decode kb49 29 = .ok (.iconst 1, 1) := by decide +kernel
theorem d49_30 : decode kb49 30 = .ok (.ishl, 1) := by decide +kernel
theorem d49_31 : decode kb49 31 = .ok (.istore_n 1, 1) := by decide +kernel
theorem d49_32 : decode kb49 32 = .ok (.aload_n 0, 1) := by decide +kernel
theorem d49_33 : decode kb49 33 = .ok (.iload_n 1, 1) := by decide +kernel
theorem d49_34 : decode kb49 34 = .ok (.iinc 1 1, 3) := by decide +kernel
theorem d49_37 : decode kb49 37 = .ok (.iload_n 2, 1) := by decide +kernel
theorem d49_38 : decode kb49 38 = .ok (.getstatic 59, 3) := by decide +kernel
theorem d49_41 : decode kb49 41 = .ok (.ishr, 1) := by decide +kernel
theorem d49_42 : decode kb49 42 = .ok (.i2b, 1) := by decide +kernel
theorem d49_43 : decode kb49 43 = .ok (.bastore, 1) := by decide +kernel
theorem d49_44 : decode kb49 44 = .ok (.aload_n 0, 1) := by decide +kernel
theorem d49_45 : decode kb49 45 = .ok (.iload_n 1, 1) := by decide +kernel
theorem d49_46 : decode kb49 46 = .ok (.iload_n 2, 1) := by decide +kernel
theorem d49_47 : decode kb49 47 = .ok (.getstatic 63, 3) := by decide +kernel
theorem d49_50 : decode kb49 50 = .ok (.ishr, 1) := by decide +kernel
theorem d49_51 : decode kb49 51 = .ok (.i2b, 1) := by decide +kernel
theorem d49_52 : decode kb49 52 = .ok (.bastore, 1) := by decide +kernel
theorem d49_53 : decode kb49 53 = .ok (.return_, 1) := by decide +kernel
abbrev kb50 := jdk_52_method_5_code
theorem d50_0 : decode kb50 0 = .ok (.getstatic 44, 3) := by decide +kernel
theorem d50_3 : decode kb50 3 = .ok (.ifCond .ne 25, 3) := by decide +kernel
theorem d50_28 : decode kb50 28 = .ok (.iload_n 1, 1) := by decide +kernel
theorem d50_29 : decode kb50 29 = .ok (.iconst 1, 1) := by decide +kernel
theorem d50_30 : decode kb50 30 = .ok (.ishl, 1) := by decide +kernel
theorem d50_31 : decode kb50 31 = .ok (.istore_n 1, 1) := by decide +kernel
theorem d50_32 : decode kb50 32 = .ok (.aload_n 0, 1) := by decide +kernel
theorem d50_33 : decode kb50 33 = .ok (.iload_n 1, 1) := by decide +kernel
theorem d50_34 : decode kb50 34 = .ok (.iinc 1 1, 3) := by decide +kernel
theorem d50_37 : decode kb50 37 = .ok (.baload, 1) := by decide +kernel
theorem d50_38 : decode kb50 38 = .ok (.sipush 255, 3) := by decide +kernel
theorem d50_41 : decode kb50 41 = .ok (.iand, 1) := by decide +kernel
theorem d50_42 : decode kb50 42 = .ok (.getstatic 59, 3) := by decide +kernel
theorem d50_45 : decode kb50 45 = .ok (.ishl, 1) := by decide +kernel
theorem d50_46 : decode kb50 46 = .ok (.aload_n 0, 1) := by decide +kernel
theorem d50_47 : decode kb50 47 = .ok (.iload_n 1, 1) := by decide +kernel
theorem d50_48 : decode kb50 48 = .ok (.baload, 1) := by decide +kernel
theorem d50_49 : decode kb50 49 = .ok (.sipush 255, 3) := by decide +kernel
theorem d50_52 : decode kb50 52 = .ok (.iand, 1) := by decide +kernel
theorem d50_53 : decode kb50 53 = .ok (.getstatic 63, 3) := by decide +kernel
theorem d50_56 : decode kb50 56 = .ok (.ishl, 1) := by decide +kernel
theorem d50_57 : decode kb50 57 = .ok (.ior, 1) := by decide +kernel
theorem d50_58 : decode kb50 58 = .ok (.i2c, 1) := by decide +kernel
theorem d50_59 : decode kb50 59 = .ok (.ireturn, 1) := by decide +kernel
abbrev kb48 := jdk_52_method_3_code
theorem d48_0 : decode kb48 0 = .ok (.iload_n 0, 1) := by decide +kernel
theorem d48_1 : decode kb48 1 = .ok (.ifCond .ge 11, 3) := by decide +kernel
theorem d48_12 : decode kb48 12 = .ok (.iload_n 0, 1) := by decide +kernel
theorem d48_13 : decode kb48 13 = .ok (.ldc 20, 2) := by decide +kernel
theorem d48_15 : decode kb48 15 = .ok (.if_icmp .lt 40, 3) := by decide +kernel
theorem d48_55 : decode kb48 55 = .ok (.iload_n 0, 1) := by decide +kernel
theorem d48_56 : decode kb48 56 = .ok (.iconst 1, 1) := by decide +kernel
theorem d48_57 : decode kb48 57 = .ok (.ishl, 1) := by decide +kernel
theorem d48_58 : decode kb48 58 = .ok (.ireturn, 1) := by decide +kernel
abbrev kb47 := jdk_52_method_2_code
theorem d47_0 : decode kb47 0 = .ok (.iload_n 0, 1) := by decide +kernel
theorem d47_1 : decode kb47 1 = .ok (.invokestatic 11, 3) := by decide +kernel
theorem pd_oIcI : parseMethodDescriptor "(I)I" = some ⟨[.int], some .int⟩ := by decide +kernel
theorem d47_4 : decode kb47 4 = .ok (.newarray .byte, 2) := by decide +kernel
theorem d47_6 : decode kb47 6 = .ok (.areturn, 1) := by decide +kernel
abbrev kb46 := jdk_52_method_14_code
theorem d46_0 : decode kb46 0 = .ok (.iload_n 2, 1) := by decide +kernel
theorem d46_1 : decode kb46 1 = .ok (.invokestatic 107, 3) := by decide +kernel
theorem pd_oIcAB : parseMethodDescriptor "(I)[B" = some ⟨[.int], some (.array .byte)⟩ := by decide +kernel
theorem d46_4 : decode kb46 4 = .ok (.astore_n 3, 1) := by decide +kernel
theorem d46_5 : decode kb46 5 = .ok (.iconst 0, 1) := by decide +kernel
theorem d46_6 : decode kb46 6 = .ok (.istore 4, 2) := by decide +kernel
theorem d46_8 : decode kb46 8 = .ok (.iload 4, 2) := by decide +kernel
theorem d46_10 : decode kb46 10 = .ok (.iload_n 2, 1) := by decide +kernel
theorem d46_11 : decode kb46 11 = .ok (.if_icmp .ge 21, 3) := by decide +kernel
theorem d46_32 : decode kb46 32 = .ok (.aload_n 3, 1) := by decide +kernel
theorem d46_33 : decode kb46 33 = .ok (.areturn, 1) := by decide +kernel
theorem d46_14 : decode kb46 14 = .ok (.aload_n 3, 1) := by decide +kernel
theorem d46_15 : decode kb46 15 = .ok (.iload 4, 2) := by decide +kernel
theorem d46_17 : decode kb46 17 = .ok (.aload_n 0, 1) := by decide +kernel
theorem d46_18 : decode kb46 18 = .ok (.iload_n 1, 1) := by decide +kernel
theorem d46_19 : decode kb46 19 = .ok (.caload, 1) := by decide +kernel
theorem d46_20 : decode kb46 20 = .ok (.invokestatic 111, 3) := by decide +kernel
theorem pd_oABIIcV : parseMethodDescriptor "([BII)V" = some ⟨[(.array .byte), .int, .int], none⟩ := by decide +kernel
theorem d46_23 : decode kb46 23 = .ok (.iinc 1 1, 3) := by decide +kernel
theorem d46_26 : decode kb46 26 = .ok (.iinc 4 1, 3) := by decide +kernel
theorem d46_29 : decode kb46 29 = .ok (.goto (-21), 3) := by decide +kernel
abbrev kb8 := jdk_52_method_16_code
theorem d8_0 : decode kb8 0 = .ok (.iload_n 2, 1) := by decide +kernel
theorem d8_1 : decode kb8 1 = .ok (.newarray .byte, 2) := by decide +kernel
theorem d8_3 : decode kb8 3 = .ok (.astore_n 3, 1) := by decide +kernel
theorem d8_4 : decode kb8 4 = .ok (.aload_n 0, 1) := by decide +kernel
theorem d8_5 : decode kb8 5 = .ok (.iload_n 1, 1) := by decide +kernel
theorem d8_6 : decode kb8 6 = .ok (.aload_n 3, 1) := by decide +kernel
theorem d8_7 : decode kb8 7 = .ok (.iconst 0, 1) := by decide +kernel
theorem d8_8 : decode kb8 8 = .ok (.iload_n 2, 1) := by decide +kernel
theorem d8_9 : decode kb8 9 = .ok (.invokestatic 115, 3) := by decide +kernel
theorem pd_oACIABIIcI : parseMethodDescriptor "([CI[BII)I" = some ⟨[(.array .char), .int, (.array .byte), .int, .int], some .int⟩ := by decide +kernel
theorem d8_12 : decode kb8 12 = .ok (.istore 4, 2) := by decide +kernel
theorem d8_14 : decode kb8 14 = .ok (.iload 4, 2) := by decide +kernel
theorem d8_16 : decode kb8 16 = .ok (.iload_n 2, 1) := by decide +kernel
theorem d8_17 : decode kb8 17 = .ok (.if_icmp .eq 40, 3) := by decide +kernel
theorem d8_57 : decode kb8 57 = .ok (.aload_n 3, 1) := by decide +kernel
theorem d8_58 : decode kb8 58 = .ok (.areturn, 1) := by decide +kernel
theorem d8_20 : decode kb8 20 = .ok (.aload_n 0, 1) := by decide +kernel
theorem d8_21 : decode kb8 21 = .ok (.iload_n 1, 1) := by decide +kernel
theorem d8_22 : decode kb8 22 = .ok (.iload_n 2, 1) := by decide +kernel
theorem d8_23 : decode kb8 23 = .ok (.invokestatic 119, 3) := by decide +kernel
theorem pd_oACIIcAB : parseMethodDescriptor "([CII)[B" = some ⟨[(.array .char), .int, .int], some (.array .byte)⟩ := by decide +kernel
theorem d8_26 : decode kb8 26 = .ok (.astore 5, 2) := by decide +kernel
theorem d8_28 : decode kb8 28 = .ok (.aload 5, 2) := by decide +kernel
theorem d8_30 : decode kb8 30 = .ok (.iload 4, 2) := by decide +kernel
theorem d8_32 : decode kb8 32 = .ok (.invokestatic 71, 3) := by decide +kernel
theorem pd_oABIcC : parseMethodDescriptor "([BI)C" = some ⟨[(.array .byte), .int], some .char⟩ := by decide +kernel
theorem d8_35 : decode kb8 35 = .ok (.sipush 255, 3) := by decide +kernel
theorem d8_38 : decode kb8 38 = .ok (.if_icmp .gt 16, 3) := by decide +kernel
theorem d8_54 : decode kb8 54 = .ok (.aload 5, 2) := by decide +kernel
theorem d8_56 : decode kb8 56 = .ok (.areturn, 1) := by decide +kernel
abbrev kb10 := jdk_52_method_15_code
theorem d10_0 : decode kb10 0 = .ok (.iload_n 1, 1) := by decide +kernel
theorem d10_1 : decode kb10 1 = .ok (.aload_n 0, 1) := by decide +kernel
theorem d10_2 : decode kb10 2 = .ok (.arraylength, 1) := by decide +kernel
theorem d10_3 : decode kb10 3 = .ok (.isub, 1) := by decide +kernel
theorem d10_4 : decode kb10 4 = .ok (.bipush 31, 2) := by decide +kernel
theorem d10_6 : decode kb10 6 = .ok (.iushr, 1) := by decide +kernel
theorem d10_7 : decode kb10 7 = .ok (.i2b, 1) := by decide +kernel
theorem d10_8 : decode kb10 8 = .ok (.ireturn, 1) := by decide +kernel
theorem pn_java_lang_String : plainName "java/lang/String" = true := by first | (simp [plainName, overriddenIn]; done) | decide +kernel
abbrev kb7 := jdk_42_method_149_code
theorem d7_0 : decode kb7 0 = .ok (.aload_n 0, 1) := by decide +kernel
theorem d7_1 : decode kb7 1 = .ok (.invokespecial 1, 3) := by decide +kernel
theorem d7_4 : decode kb7 4 = .ok (.iload_n 3, 1) := by decide +kernel
theorem d7_5 : decode kb7 5 = .ok (.ifCond .ne 22, 3) := by decide +kernel
theorem d7_27 : decode kb7 27 = .ok (.getstatic 38, 3) := by decide +kernel
theorem d7_30 : decode kb7 30 = .ok (.ifCond .eq 28, 3) := by decide +kernel
theorem d7_33 : decode kb7 33 = .ok (.aload_n 1, 1) := by decide +kernel
theorem d7_34 : decode kb7 34 = .ok (.iload_n 2, 1) := by decide +kernel
theorem d7_35 : decode kb7 35 = .ok (.iload_n 3, 1) := by decide +kernel
theorem d7_36 : decode kb7 36 = .ok (.invokestatic 177, 3) := by decide +kernel
theorem d7_39 : decode kb7 39 = .ok (.astore 5, 2) := by decide +kernel
theorem d7_41 : decode kb7 41 = .ok (.aload_n 0, 1) := by decide +kernel
theorem d7_42 : decode kb7 42 = .ok (.aload 5, 2) := by decide +kernel
theorem d7_44 : decode kb7 44 = .ok (.iload_n 3, 1) := by decide +kernel
theorem d7_45 : decode kb7 45 = .ok (.invokestatic 47, 3) := by decide +kernel
theorem pd_oABIcB : parseMethodDescriptor "([BI)B" = some ⟨[(.array .byte), .int], some .byte⟩ := by decide +kernel
theorem d7_48 : decode kb7 48 = .ok (.putfield 15, 3) := by decide +kernel
theorem d7_51 : decode kb7 51 = .ok (.aload_n 0, 1) := by decide +kernel
theorem d7_52 : decode kb7 52 = .ok (.aload 5, 2) := by decide +kernel
theorem d7_54 : decode kb7 54 = .ok (.putfield 9, 3) := by decide +kernel
theorem d7_57 : decode kb7 57 = .ok (.return_, 1) := by decide +kernel
abbrev kb6 := jdk_42_method_3_code
theorem d6_0 : decode kb6 0 = .ok (.aload_n 0, 1) := by decide +kernel
theorem d6_1 : decode kb6 1 = .ok (.aload_n 1, 1) := by decide +kernel
theorem d6_2 : decode kb6 2 = .ok (.iconst 0, 1) := by decide +kernel
theorem d6_3 : decode kb6 3 = .ok (.aload_n 1, 1) := by decide +kernel
theorem d6_4 : decode kb6 4 = .ok (.arraylength, 1) := by decide +kernel
theorem d6_5 : decode kb6 5 = .ok (.aconst_null, 1) := by decide +kernel
theorem d6_6 : decode kb6 6 = .ok (.invokespecial 27, 3) := by decide +kernel
theorem pd_oACIILjava_lang_Void_cV : parseMethodDescriptor "([CIILjava/lang/Void;)V" = some ⟨[(.array .char), .int, .int, (.object "java/lang/Void")], none⟩ := by decide +kernel
theorem d6_9 : decode kb6 9 = .ok (.return_, 1) := by decide +kernel
abbrev kb17 := jdk_42_method_152_code
theorem d17_0 : decode kb17 0 = .ok (.getstatic 38, 3) := by decide +kernel
theorem d17_3 : decode kb17 3 = .ok (.ifCond .eq 10, 3) := by decide +kernel
theorem d17_6 : decode kb17 6 = .ok (.aload_n 0, 1) := by decide +kernel
theorem d17_7 : decode kb17 7 = .ok (.getfield 15, 3) := by decide +kernel
theorem d17_10 : decode kb17 10 = .ok (.goto 4, 3) := by decide +kernel
theorem d17_14 : decode kb17 14 = .ok (.ireturn, 1) := by decide +kernel
abbrev kb16 := jdk_42_method_54_code
theorem d16_0 : decode kb16 0 = .ok (.aload_n 0, 1) := by decide +kernel
theorem d16_1 : decode kb16 1 = .ok (.getfield 9, 3) := by decide +kernel
theorem d16_4 : decode kb16 4 = .ok (.arraylength, 1) := by decide +kernel
theorem d16_5 : decode kb16 5 = .ok (.aload_n 0, 1) := by decide +kernel
theorem d16_6 : decode kb16 6 = .ok (.invokevirtual 335, 3) := by decide +kernel
theorem pd_ocB : parseMethodDescriptor "()B" = some ⟨[], some .byte⟩ := by decide +kernel
theorem d16_9 : decode kb16 9 = .ok (.ishr, 1) := by decide +kernel
theorem d16_10 : decode kb16 10 = .ok (.ireturn, 1) := by decide +kernel
abbrev kb44 := jdk_42_method_66_code
theorem d44_0 : decode kb44 0 = .ok (.aload_n 0, 1) := by decide +kernel
theorem d44_1 : decode kb44 1 = .ok (.aload_n 1, 1) := by decide +kernel
theorem d44_2 : decode kb44 2 = .ok (.if_acmp .ne 5, 3) := by decide +kernel
theorem d44_5 : decode kb44 5 = .ok (.iconst 1, 1) := by decide +kernel
theorem d44_6 : decode kb44 6 = .ok (.ireturn, 1) := by decide +kernel
theorem d44_7 : decode kb44 7 = .ok (.aload_n 1, 1) := by decide +kernel
theorem d44_8 : decode kb44 8 = .ok (.instanceof 10, 3) := by decide +kernel
theorem d44_11 : decode kb44 11 = .ok (.ifCond .eq 43, 3) := by decide +kernel
theorem d44_14 : decode kb44 14 = .ok (.aload_n 1, 1) := by decide +kernel
theorem d44_15 : decode kb44 15 = .ok (.checkcast 10, 3) := by decide +kernel
theorem d44_18 : decode kb44 18 = .ok (.astore_n 2, 1) := by decide +kernel
theorem d44_19 : decode kb44 19 = .ok (.getstatic 38, 3) := by decide +kernel
theorem d44_22 : decode kb44 22 = .ok (.ifCond .eq 14, 3) := by decide +kernel
theorem d44_25 : decode kb44 25 = .ok (.aload_n 0, 1) := by decide +kernel
theorem d44_26 : decode kb44 26 = .ok (.getfield 15, 3) := by decide +kernel
theorem d44_29 : decode kb44 29 = .ok (.aload_n 2, 1) := by decide +kernel
theorem d44_30 : decode kb44 30 = .ok (.getfield 15, 3) := by decide +kernel
theorem d44_33 : decode kb44 33 = .ok (.if_icmp .ne 21, 3) := by decide +kernel
theorem d44_36 : decode kb44 36 = .ok (.aload_n 0, 1) := by decide +kernel
theorem d44_37 : decode kb44 37 = .ok (.getfield 9, 3) := by decide +kernel
theorem d44_40 : decode kb44 40 = .ok (.aload_n 2, 1) := by decide +kernel
theorem d44_41 : decode kb44 41 = .ok (.getfield 9, 3) := by decide +kernel
theorem d44_44 : decode kb44 44 = .ok (.invokestatic 541, 3) := by decide +kernel
theorem pd_oABABcZ : parseMethodDescriptor "([B[B)Z" = some ⟨[(.array .byte), (.array .byte)], some .boolean⟩ := by decide +kernel
theorem d44_47 : decode kb44 47 = .ok (.ifCond .eq 7, 3) := by decide +kernel
theorem d44_50 : decode kb44 50 = .ok (.iconst 1, 1) := by decide +kernel
theorem d44_51 : decode kb44 51 = .ok (.goto 4, 3) := by decide +kernel
theorem d44_55 : decode kb44 55 = .ok (.ireturn, 1) := by decide +kernel
abbrev kb23 := jdk_29_method_69_code
theorem d23_0 : decode kb23 0 = .ok (.iload_n 0, 1) := by decide +kernel
theorem d23_1 : decode kb23 1 = .ok (.iload_n 1, 1) := by decide +kernel
theorem d23_2 : decode kb23 2 = .ok (.if_icmp .gt 7, 3) := by decide +kernel
theorem d23_9 : decode kb23 9 = .ok (.iload_n 1, 1) := by decide +kernel
theorem d23_10 : decode kb23 10 = .ok (.ireturn, 1) := by decide +kernel
theorem d23_5 : decode kb23 5 = .ok (.iload_n 0, 1) := by decide +kernel
theorem d23_6 : decode kb23 6 = .ok (.goto 4, 3) := by decide +kernel
theorem pn_java_util_Arrays : plainName "java/util/Arrays" = true := by first | (simp [plainName, overriddenIn]; done) | decide +kernel
abbrev kb36 := jdk_65_method_131_code
theorem d36_0 : decode kb36 0 = .ok (.iload_n 1, 1) := by decide +kernel
theorem d36_1 : decode kb36 1 = .ok (.iload_n 0, 1) := by decide +kernel
theorem d36_2 : decode kb36 2 = .ok (.if_icmp .ge 35, 3) := by decide +kernel
theorem d36_37 : decode kb36 37 = .ok (.return_, 1) := by decide +kernel
abbrev kb35 := jdk_65_method_133_code
theorem d35_0 : decode kb35 0 = .ok (.iload_n 1, 1) := by decide +kernel
theorem d35_1 : decode kb35 1 = .ok (.iload_n 2, 1) := by decide +kernel
theorem d35_2 : decode kb35 2 = .ok (.invokestatic 343, 3) := by decide +kernel
theorem pd_oIIcV : parseMethodDescriptor "(II)V" = some ⟨[.int, .int], none⟩ := by decide +kernel
theorem d35_5 : decode kb35 5 = .ok (.iload_n 2, 1) := by decide +kernel
theorem d35_6 : decode kb35 6 = .ok (.iload_n 1, 1) := by decide +kernel
theorem d35_7 : decode kb35 7 = .ok (.isub, 1) := by decide +kernel
theorem d35_8 : decode kb35 8 = .ok (.istore_n 3, 1) := by decide +kernel
theorem d35_9 : decode kb35 9 = .ok (.iload_n 3, 1) := by decide +kernel
theorem d35_10 : decode kb35 10 = .ok (.newarray .byte, 2) := by decide +kernel
theorem d35_12 : decode kb35 12 = .ok (.astore 4, 2) := by decide +kernel
theorem d35_14 : decode kb35 14 = .ok (.aload_n 0, 1) := by decide +kernel
theorem d35_15 : decode kb35 15 = .ok (.iload_n 1, 1) := by decide +kernel
theorem d35_16 : decode kb35 16 = .ok (.aload 4, 2) := by decide +kernel
theorem d35_18 : decode kb35 18 = .ok (.iconst 0, 1) := by decide +kernel
theorem d35_19 : decode kb35 19 = .ok (.aload_n 0, 1) := by decide +kernel
theorem d35_20 : decode kb35 20 = .ok (.arraylength, 1) := by decide +kernel
theorem d35_21 : decode kb35 21 = .ok (.iload_n 1, 1) := by decide +kernel
theorem d35_22 : decode kb35 22 = .ok (.isub, 1) := by decide +kernel
theorem d35_23 : decode kb35 23 = .ok (.iload_n 3, 1) := by decide +kernel
theorem d35_24 : decode kb35 24 = .ok (.invokestatic 304, 3) := by decide +kernel
theorem pd_oIIcI : parseMethodDescriptor "(II)I" = some ⟨[.int, .int], some .int⟩ := by decide +kernel
theorem d35_27 : decode kb35 27 = .ok (.invokestatic 150, 3) := by decide +kernel
theorem d35_30 : decode kb35 30 = .ok (.aload 4, 2) := by decide +kernel
theorem d35_32 : decode kb35 32 = .ok (.areturn, 1) := by decide +kernel
theorem pn_java_lang_AbstractStringBuilder : plainName "java/lang/AbstractStringBuilder" = true := by first | (simp [plainName, overriddenIn]; done) | decide +kernel
abbrev kb18 := jdk_68_method_9_code
theorem d18_0 : decode kb18 0 = .ok (.aload_n 0, 1) := by decide +kernel
theorem d18_1 : decode kb18 1 = .ok (.getfield 15, 3) := by decide +kernel
theorem d18_4 : decode kb18 4 = .ok (.arraylength, 1) := by decide +kernel
theorem d18_5 : decode kb18 5 = .ok (.aload_n 0, 1) := by decide +kernel
theorem d18_6 : decode kb18 6 = .ok (.getfield 22, 3) := by decide +kernel
theorem d18_9 : decode kb18 9 = .ok (.ishr, 1) := by decide +kernel
theorem d18_10 : decode kb18 10 = .ok (.istore_n 2, 1) := by decide +kernel
theorem d18_11 : decode kb18 11 = .ok (.iload_n 1, 1) := by decide +kernel
theorem d18_12 : decode kb18 12 = .ok (.iload_n 2, 1) := by decide +kernel
theorem d18_13 : decode kb18 13 = .ok (.isub, 1) := by decide +kernel
theorem d18_14 : decode kb18 14 = .ok (.ifCond .le 24, 3) := by decide +kernel
theorem d18_38 : decode kb18 38 = .ok (.return_, 1) := by decide +kernel
abbrev kb21 := jdk_29_method_65_code
theorem d21_0 : decode kb21 0 = .ok (.iload_n 0, 1) := by decide +kernel
theorem d21_1 : decode kb21 1 = .ok (.iload_n 1, 1) := by decide +kernel
theorem d21_2 : decode kb21 2 = .ok (.if_icmp .lt 7, 3) := by decide +kernel
theorem d21_9 : decode kb21 9 = .ok (.iload_n 1, 1) := by decide +kernel
theorem d21_10 : decode kb21 10 = .ok (.ireturn, 1) := by decide +kernel
theorem pn_jdk_internal_util_ArraysSupport : plainName "jdk/internal/util/ArraysSupport" = true := by first | (simp [plainName, overriddenIn]; done) | decide +kernel
abbrev kb20 := jdk_48_method_27_code
theorem d20_0 : decode kb20 0 = .ok (.iload_n 0, 1) := by decide +kernel
theorem d20_1 : decode kb20 1 = .ok (.iload_n 1, 1) := by decide +kernel
theorem d20_2 : decode kb20 2 = .ok (.iload_n 2, 1) := by decide +kernel
theorem d20_3 : decode kb20 3 = .ok (.invokestatic 194, 3) := by decide +kernel
theorem d20_6 : decode kb20 6 = .ok (.iadd, 1) := by decide +kernel
theorem d20_7 : decode kb20 7 = .ok (.istore_n 3, 1) := by decide +kernel
theorem d20_8 : decode kb20 8 = .ok (.iconst 0, 1) := by decide +kernel
theorem d20_9 : decode kb20 9 = .ok (.iload_n 3, 1) := by decide +kernel
theorem d20_10 : decode kb20 10 = .ok (.if_icmp .ge 11, 3) := by decide +kernel
theorem d20_13 : decode kb20 13 = .ok (.iload_n 3, 1) := by decide +kernel
theorem d20_14 : decode kb20 14 = .ok (.ldc 200, 2) := by decide +kernel
theorem d20_16 : decode kb20 16 = .ok (.if_icmp .gt 5, 3) := by decide +kernel
theorem d20_19 : decode kb20 19 = .ok (.iload_n 3, 1) := by decide +kernel
theorem d20_20 : decode kb20 20 = .ok (.ireturn, 1) := by decide +kernel
abbrev kb19 := jdk_68_method_10_code
theorem d19_0 : decode kb19 0 = .ok (.aload_n 0, 1) := by decide +kernel
theorem d19_1 : decode kb19 1 = .ok (.getfield 15, 3) := by decide +kernel
theorem d19_4 : decode kb19 4 = .ok (.arraylength, 1) := by decide +kernel
theorem d19_5 : decode kb19 5 = .ok (.istore_n 2, 1) := by decide +kernel
theorem d19_6 : decode kb19 6 = .ok (.iload_n 1, 1) := by decide +kernel
theorem d19_7 : decode kb19 7 = .ok (.aload_n 0, 1) := by decide +kernel
theorem d19_8 : decode kb19 8 = .ok (.getfield 22, 3) := by decide +kernel
theorem d19_11 : decode kb19 11 = .ok (.ishl, 1) := by decide +kernel
theorem d19_12 : decode kb19 12 = .ok (.istore_n 3, 1) := by decide +kernel
theorem d19_13 : decode kb19 13 = .ok (.iload_n 3, 1) := by decide +kernel
theorem d19_14 : decode kb19 14 = .ok (.iload_n 2, 1) := by decide +kernel
theorem d19_15 : decode kb19 15 = .ok (.isub, 1) := by decide +kernel
theorem d19_16 : decode kb19 16 = .ok (.istore 4, 2) := by decide +kernel
theorem d19_18 : decode kb19 18 = .ok (.iload_n 2, 1) := by decide +kernel
theorem d19_19 : decode kb19 19 = .ok (.iload 4, 2) := by decide +kernel
theorem d19_21 : decode kb19 21 = .ok (.iload_n 2, 1) := by decide +kernel
theorem d19_22 : decode kb19 22 = .ok (.iconst 2, 1) := by decide +kernel
theorem d19_23 : decode kb19 23 = .ok (.aload_n 0, 1) := by decide +kernel
theorem d19_24 : decode kb19 24 = .ok (.getfield 22, 3) := by decide +kernel
theorem d19_27 : decode kb19 27 = .ok (.ishl, 1) := by decide +kernel
theorem d19_28 : decode kb19 28 = .ok (.iadd, 1) := by decide +kernel
theorem d19_29 : decode kb19 29 = .ok (.invokestatic 114, 3) := by decide +kernel
theorem pd_oIIIcI : parseMethodDescriptor "(III)I" = some ⟨[.int, .int, .int], some .int⟩ := by decide +kernel
theorem d19_32 : decode kb19 32 = .ok (.istore 5, 2) := by decide +kernel
theorem d19_34 : decode kb19 34 = .ok (.iload 5, 2) := by decide +kernel
theorem d19_36 : decode kb19 36 = .ok (.ldc 39, 2) := by decide +kernel
theorem d19_38 : decode kb19 38 = .ok (.if_icmp .ne 13, 3) := by decide +kernel
theorem d19_51 : decode kb19 51 = .ok (.iload 5, 2) := by decide +kernel
theorem d19_53 : decode kb19 53 = .ok (.aload_n 0, 1) := by decide +kernel
theorem d19_54 : decode kb19 54 = .ok (.getfield 22, 3) := by decide +kernel
theorem d19_57 : decode kb19 57 = .ok (.ishr, 1) := by decide +kernel
theorem d19_58 : decode kb19 58 = .ok (.ireturn, 1) := by decide +kernel
abbrev kb22 := jdk_65_method_121_code
theorem d22_0 : decode kb22 0 = .ok (.iload_n 1, 1) := by decide +kernel
theorem d22_1 : decode kb22 1 = .ok (.aload_n 0, 1) := by decide +kernel
theorem d22_2 : decode kb22 2 = .ok (.arraylength, 1) := by decide +kernel
theorem d22_3 : decode kb22 3 = .ok (.if_icmp .ne 11, 3) := by decide +kernel
theorem d22_14 : decode kb22 14 = .ok (.iload_n 1, 1) := by decide +kernel
theorem d22_15 : decode kb22 15 = .ok (.newarray .byte, 2) := by decide +kernel
theorem d22_17 : decode kb22 17 = .ok (.astore_n 2, 1) := by decide +kernel
theorem d22_18 : decode kb22 18 = .ok (.aload_n 0, 1) := by decide +kernel
theorem d22_19 : decode kb22 19 = .ok (.iconst 0, 1) := by decide +kernel
theorem d22_20 : decode kb22 20 = .ok (.aload_n 2, 1) := by decide +kernel
theorem d22_21 : decode kb22 21 = .ok (.iconst 0, 1) := by decide +kernel
theorem d22_22 : decode kb22 22 = .ok (.aload_n 0, 1) := by decide +kernel
theorem d22_23 : decode kb22 23 = .ok (.arraylength, 1) := by decide +kernel
theorem d22_24 : decode kb22 24 = .ok (.iload_n 1, 1) := by decide +kernel
theorem d22_25 : decode kb22 25 = .ok (.invokestatic 304, 3) := by decide +kernel
theorem d22_28 : decode kb22 28 = .ok (.invokestatic 150, 3) := by decide +kernel
theorem d22_31 : decode kb22 31 = .ok (.aload_n 2, 1) := by decide +kernel
theorem d22_32 : decode kb22 32 = .ok (.areturn, 1) := by decide +kernel
theorem d18_17 : decode kb18 17 = .ok (.aload_n 0, 1) := by decide +kernel
theorem d18_18 : decode kb18 18 = .ok (.aload_n 0, 1) := by decide +kernel
theorem d18_19 : decode kb18 19 = .ok (.getfield 15, 3) := by decide +kernel
theorem d18_22 : decode kb18 22 = .ok (.aload_n 0, 1) := by decide +kernel
theorem d18_23 : decode kb18 23 = .ok (.iload_n 1, 1) := by decide +kernel
theorem d18_24 : decode kb18 24 = .ok (.invokevirtual 104, 3) := by decide +kernel
theorem d18_27 : decode kb18 27 = .ok (.aload_n 0, 1) := by decide +kernel
theorem d18_28 : decode kb18 28 = .ok (.getfield 22, 3) := by decide +kernel
theorem d18_31 : decode kb18 31 = .ok (.ishl, 1) := by decide +kernel
theorem d18_32 : decode kb18 32 = .ok (.invokestatic 108, 3) := by decide +kernel
theorem pd_oABIcAB : parseMethodDescriptor "([BI)[B" = some ⟨[(.array .byte), .int], some (.array .byte)⟩ := by decide +kernel
theorem d18_35 : decode kb18 35 = .ok (.putfield 15, 3) := by decide +kernel
theorem pn_jdk_internal_util_Preconditions : plainName "jdk/internal/util/Preconditions" = true := by first | (simp [plainName, overriddenIn]; done) | decide +kernel
abbrev kb57 := jdk_41_method_13_code
theorem d57_0 : decode kb57 0 = .ok (.iload_n 2, 1) := by decide +kernel
theorem d57_1 : decode kb57 1 = .ok (.iload_n 0, 1) := by decide +kernel
theorem d57_2 : decode kb57 2 = .ok (.ior, 1) := by decide +kernel
theorem d57_3 : decode kb57 3 = .ok (.iload_n 1, 1) := by decide +kernel
theorem d57_4 : decode kb57 4 = .ok (.ior, 1) := by decide +kernel
theorem d57_5 : decode kb57 5 = .ok (.ifCond .lt 10, 3) := by decide +kernel
theorem d57_8 : decode kb57 8 = .ok (.iload_n 1, 1) := by decide +kernel
theorem d57_9 : decode kb57 9 = .ok (.iload_n 2, 1) := by decide +kernel
theorem d57_10 : decode kb57 10 = .ok (.iload_n 0, 1) := by decide +kernel
theorem d57_11 : decode kb57 11 = .ok (.isub, 1) := by decide +kernel
theorem d57_12 : decode kb57 12 = .ok (.if_icmp .le 11, 3) := by decide +kernel
theorem d57_23 : decode kb57 23 = .ok (.iload_n 0, 1) := by decide +kernel
theorem d57_24 : decode kb57 24 = .ok (.ireturn, 1) := by decide +kernel
abbrev kb56 := jdk_42_method_157_code
theorem d56_0 : decode kb56 0 = .ok (.iload_n 0, 1) := by decide +kernel
theorem d56_1 : decode kb56 1 = .ok (.iload_n 1, 1) := by decide +kernel
theorem d56_2 : decode kb56 2 = .ok (.iload_n 2, 1) := by decide +kernel
theorem d56_3 : decode kb56 3 = .ok (.getstatic 1053, 3) := by decide +kernel
theorem d56_6 : decode kb56 6 = .ok (.invokestatic 1065, 3) := by decide +kernel
theorem pd_oIIILjava_util_function_BiFunction_cI : parseMethodDescriptor "(IIILjava/util/function/BiFunction;)I" = some ⟨[.int, .int, .int, (.object "java/util/function/BiFunction")], some .int⟩ := by decide +kernel
theorem d56_9 : decode kb56 9 = .ok (.ireturn, 1) := by decide +kernel
abbrev kb55 := jdk_52_method_6_code
theorem d55_0 : decode kb55 0 = .ok (.aload_n 0, 1) := by decide +kernel
theorem d55_1 : decode kb55 1 = .ok (.arraylength, 1) := by decide +kernel
theorem d55_2 : decode kb55 2 = .ok (.iconst 1, 1) := by decide +kernel
theorem d55_3 : decode kb55 3 = .ok (.ishr, 1) := by decide +kernel
theorem d55_4 : decode kb55 4 = .ok (.ireturn, 1) := by decide +kernel
abbrev kb54 := jdk_52_method_94_code
theorem d54_0 : decode kb54 0 = .ok (.iload_n 0, 1) := by decide +kernel
theorem d54_1 : decode kb54 1 = .ok (.iload_n 1, 1) := by decide +kernel
theorem d54_2 : decode kb54 2 = .ok (.aload_n 2, 1) := by decide +kernel
theorem d54_3 : decode kb54 3 = .ok (.invokestatic 48, 3) := by decide +kernel
theorem pd_oABcI : parseMethodDescriptor "([B)I" = some ⟨[(.array .byte)], some .int⟩ := by decide +kernel
theorem d54_6 : decode kb54 6 = .ok (.invokestatic 419, 3) := by decide +kernel
theorem d54_9 : decode kb54 9 = .ok (.pop, 1) := by decide +kernel
theorem d54_10 : decode kb54 10 = .ok (.return_, 1) := by decide +kernel
abbrev kb53 := jdk_52_method_86_code
theorem d53_0 : decode kb53 0 = .ok (.iload_n 3, 1) := by decide +kernel
theorem d53_1 : decode kb53 1 = .ok (.iload 4, 2) := by decide +kernel
theorem d53_3 : decode kb53 3 = .ok (.aload_n 2, 1) := by decide +kernel
theorem d53_4 : decode kb53 4 = .ok (.invokestatic 173, 3) := by decide +kernel
theorem pd_oIIABcV : parseMethodDescriptor "(II[B)V" = some ⟨[.int, .int, (.array .byte)], none⟩ := by decide +kernel
theorem d53_7 : decode kb53 7 = .ok (.iconst 0, 1) := by decide +kernel
theorem d53_8 : decode kb53 8 = .ok (.istore 5, 2) := by decide +kernel
theorem d53_10 : decode kb53 10 = .ok (.iload 5, 2) := by decide +kernel
theorem d53_12 : decode kb53 12 = .ok (.iload 4, 2) := by decide +kernel
theorem d53_14 : decode kb53 14 = .ok (.if_icmp .ge 27, 3) := by decide +kernel
theorem d53_41 : decode kb53 41 = .ok (.return_, 1) := by decide +kernel
theorem d53_17 : decode kb53 17 = .ok (.aload_n 2, 1) := by decide +kernel
theorem d53_18 : decode kb53 18 = .ok (.iload_n 3, 1) := by decide +kernel
theorem d53_19 : decode kb53 19 = .ok (.iinc 3 1, 3) := by decide +kernel
theorem d53_22 : decode kb53 22 = .ok (.aload_n 0, 1) := by decide +kernel
theorem d53_23 : decode kb53 23 = .ok (.iload_n 1, 1) := by decide +kernel
theorem d53_24 : decode kb53 24 = .ok (.iinc 1 1, 3) := by decide +kernel
theorem d53_27 : decode kb53 27 = .ok (.baload, 1) := by decide +kernel
theorem d53_28 : decode kb53 28 = .ok (.sipush 255, 3) := by decide +kernel
theorem d53_31 : decode kb53 31 = .ok (.iand, 1) := by decide +kernel
theorem d53_32 : decode kb53 32 = .ok (.invokestatic 111, 3) := by decide +kernel
theorem d53_35 : decode kb53 35 = .ok (.iinc 5 1, 3) := by decide +kernel
theorem d53_38 : decode kb53 38 = .ok (.goto (-28), 3) := by decide +kernel
abbrev kb52 := jdk_43_method_50_code
theorem d52_0 : decode kb52 0 = .ok (.aload_n 0, 1) := by decide +kernel
theorem d52_1 : decode kb52 1 = .ok (.iload_n 1, 1) := by decide +kernel
theorem d52_2 : decode kb52 2 = .ok (.aload_n 2, 1) := by decide +kernel
theorem d52_3 : decode kb52 3 = .ok (.iload_n 3, 1) := by decide +kernel
theorem d52_4 : decode kb52 4 = .ok (.iload 4, 2) := by decide +kernel
theorem d52_6 : decode kb52 6 = .ok (.invokestatic 240, 3) := by decide +kernel
theorem pd_oABIABIIcV : parseMethodDescriptor "([BI[BII)V" = some ⟨[(.array .byte), .int, (.array .byte), .int, .int], none⟩ := by decide +kernel
theorem d52_9 : decode kb52 9 = .ok (.return_, 1) := by decide +kernel
abbrev kb33 := jdk_68_method_68_code
theorem d33_0 : decode kb33 0 = .ok (.getstatic 18, 3) := by decide +kernel
theorem d33_3 : decode kb33 3 = .ok (.ifCond .eq 14, 3) := by decide +kernel
theorem d33_6 : decode kb33 6 = .ok (.aload_n 0, 1) := by decide +kernel
theorem d33_7 : decode kb33 7 = .ok (.getfield 22, 3) := by decide +kernel
theorem d33_10 : decode kb33 10 = .ok (.ifCond .ne 7, 3) := by decide +kernel
theorem d33_13 : decode kb33 13 = .ok (.iconst 1, 1) := by decide +kernel
theorem d33_14 : decode kb33 14 = .ok (.goto 4, 3) := by decide +kernel
theorem d33_18 : decode kb33 18 = .ok (.ireturn, 1) := by decide +kernel
theorem d33_17 : decode kb33 17 = .ok (.iconst 0, 1) := by decide +kernel
abbrev kb51 := jdk_68_method_11_code
theorem d51_0 : decode kb51 0 = .ok (.aload_n 0, 1) := by decide +kernel
theorem d51_1 : decode kb51 1 = .ok (.invokevirtual 83, 3) := by decide +kernel
theorem pd_ocZ : parseMethodDescriptor "()Z" = some ⟨[], some .boolean⟩ := by decide +kernel
theorem d51_4 : decode kb51 4 = .ok (.ifCond .ne 4, 3) := by decide +kernel
theorem d51_7 : decode kb51 7 = .ok (.return_, 1) := by decide +kernel
theorem d51_8 : decode kb51 8 = .ok (.aload_n 0, 1) := by decide +kernel
theorem d51_9 : decode kb51 9 = .ok (.getfield 15, 3) := by decide +kernel
theorem d51_12 : decode kb51 12 = .ok (.arraylength, 1) := by decide +kernel
theorem d51_13 : decode kb51 13 = .ok (.invokestatic 26, 3) := by decide +kernel
theorem d51_16 : decode kb51 16 = .ok (.astore_n 1, 1) := by decide +kernel
theorem d51_17 : decode kb51 17 = .ok (.aload_n 0, 1) := by decide +kernel
theorem d51_18 : decode kb51 18 = .ok (.getfield 15, 3) := by decide +kernel
theorem d51_21 : decode kb51 21 = .ok (.iconst 0, 1) := by decide +kernel
theorem d51_22 : decode kb51 22 = .ok (.aload_n 1, 1) := by decide +kernel
theorem d51_23 : decode kb51 23 = .ok (.iconst 0, 1) := by decide +kernel
theorem d51_24 : decode kb51 24 = .ok (.aload_n 0, 1) := by decide +kernel
theorem d51_25 : decode kb51 25 = .ok (.getfield 79, 3) := by decide +kernel
theorem d51_28 : decode kb51 28 = .ok (.invokestatic 125, 3) := by decide +kernel
theorem d51_31 : decode kb51 31 = .ok (.aload_n 0, 1) := by decide +kernel
theorem d51_32 : decode kb51 32 = .ok (.aload_n 1, 1) := by decide +kernel
theorem d51_33 : decode kb51 33 = .ok (.putfield 15, 3) := by decide +kernel
theorem d51_36 : decode kb51 36 = .ok (.aload_n 0, 1) := by decide +kernel
theorem d51_37 : decode kb51 37 = .ok (.iconst 1, 1) := by decide +kernel
theorem d51_38 : decode kb51 38 = .ok (.putfield 22, 3) := by decide +kernel
theorem d51_41 : decode kb51 41 = .ok (.return_, 1) := by decide +kernel
abbrev kb25 := jdk_68_method_71_code
theorem d25_0 : decode kb25 0 = .ok (.getstatic 18, 3) := by decide +kernel
theorem d25_3 : decode kb25 3 = .ok (.ifCond .eq 18, 3) := by decide +kernel
theorem d25_6 : decode kb25 6 = .ok (.aload_n 0, 1) := by decide +kernel
theorem d25_7 : decode kb25 7 = .ok (.getfield 22, 3) := by decide +kernel
theorem d25_10 : decode kb25 10 = .ok (.aload_n 1, 1) := by decide +kernel
theorem d25_11 : decode kb25 11 = .ok (.invokevirtual 40, 3) := by decide +kernel
theorem d25_14 : decode kb25 14 = .ok (.if_icmp .eq 7, 3) := by decide +kernel
theorem d25_21 : decode kb25 21 = .ok (.return_, 1) := by decide +kernel
theorem d25_17 : decode kb25 17 = .ok (.aload_n 0, 1) := by decide +kernel
theorem d25_18 : decode kb25 18 = .ok (.invokevirtual 195, 3) := by decide +kernel
theorem pd_ocV : parseMethodDescriptor "()V" = some ⟨[], none⟩ := by decide +kernel
abbrev kb26 := jdk_42_method_147_code
theorem d26_0 : decode kb26 0 = .ok (.aload_n 0, 1) := by decide +kernel
theorem d26_1 : decode kb26 1 = .ok (.invokevirtual 335, 3) := by decide +kernel
theorem d26_4 : decode kb26 4 = .ok (.iload_n 3, 1) := by decide +kernel
theorem d26_5 : decode kb26 5 = .ok (.if_icmp .ne 23, 3) := by decide +kernel
theorem d26_8 : decode kb26 8 = .ok (.aload_n 0, 1) := by decide +kernel
theorem d26_9 : decode kb26 9 = .ok (.getfield 9, 3) := by decide +kernel
theorem d26_12 : decode kb26 12 = .ok (.iconst 0, 1) := by decide +kernel
theorem d26_13 : decode kb26 13 = .ok (.aload_n 1, 1) := by decide +kernel
theorem d26_14 : decode kb26 14 = .ok (.iload_n 2, 1) := by decide +kernel
theorem d26_15 : decode kb26 15 = .ok (.iload_n 3, 1) := by decide +kernel
theorem d26_16 : decode kb26 16 = .ok (.ishl, 1) := by decide +kernel
theorem d26_17 : decode kb26 17 = .ok (.aload_n 0, 1) := by decide +kernel
theorem d26_18 : decode kb26 18 = .ok (.getfield 9, 3) := by decide +kernel
theorem d26_21 : decode kb26 21 = .ok (.arraylength, 1) := by decide +kernel
theorem d26_22 : decode kb26 22 = .ok (.invokestatic 212, 3) := by decide +kernel
theorem d26_25 : decode kb26 25 = .ok (.goto 18, 3) := by decide +kernel
theorem d26_43 : decode kb26 43 = .ok (.return_, 1) := by decide +kernel
theorem d26_28 : decode kb26 28 = .ok (.aload_n 0, 1) := by decide +kernel
theorem d26_29 : decode kb26 29 = .ok (.getfield 9, 3) := by decide +kernel
theorem d26_32 : decode kb26 32 = .ok (.iconst 0, 1) := by decide +kernel
theorem d26_33 : decode kb26 33 = .ok (.aload_n 1, 1) := by decide +kernel
theorem d26_34 : decode kb26 34 = .ok (.iload_n 2, 1) := by decide +kernel
theorem d26_35 : decode kb26 35 = .ok (.aload_n 0, 1) := by decide +kernel
theorem d26_36 : decode kb26 36 = .ok (.getfield 9, 3) := by decide +kernel
theorem d26_39 : decode kb26 39 = .ok (.arraylength, 1) := by decide +kernel
theorem d26_40 : decode kb26 40 = .ok (.invokestatic 106, 3) := by decide +kernel
abbrev kb24 := jdk_68_method_73_code
theorem d24_0 : decode kb24 0 = .ok (.aload_n 0, 1) := by decide +kernel
theorem d24_1 : decode kb24 1 = .ok (.aload_n 2, 1) := by decide +kernel
theorem d24_2 : decode kb24 2 = .ok (.invokevirtual 397, 3) := by decide +kernel
theorem pd_oLjava_lang_String_cV : parseMethodDescriptor "(Ljava/lang/String;)V" = some ⟨[(.object "java/lang/String")], none⟩ := by decide +kernel
theorem d24_5 : decode kb24 5 = .ok (.aload_n 2, 1) := by decide +kernel
theorem d24_6 : decode kb24 6 = .ok (.aload_n 0, 1) := by decide +kernel
theorem d24_7 : decode kb24 7 = .ok (.getfield 15, 3) := by decide +kernel
theorem d24_10 : decode kb24 10 = .ok (.iload_n 1, 1) := by decide +kernel
theorem d24_11 : decode kb24 11 = .ok (.aload_n 0, 1) := by decide +kernel
theorem d24_12 : decode kb24 12 = .ok (.getfield 22, 3) := by decide +kernel
theorem d24_15 : decode kb24 15 = .ok (.invokevirtual 399, 3) := by decide +kernel
theorem pd_oABIBcV : parseMethodDescriptor "([BIB)V" = some ⟨[(.array .byte), .int, .byte], none⟩ := by decide +kernel
theorem d24_18 : decode kb24 18 = .ok (.return_, 1) := by decide +kernel
abbrev kb15 := jdk_68_method_22_code
theorem d15_0 : decode kb15 0 = .ok (.aload_n 1, 1) := by decide +kernel
theorem d15_1 : decode kb15 1 = .ok (.ifnonnull 8, 3) := by decide +kernel
theorem d15_9 : decode kb15 9 = .ok (.aload_n 1, 1) := by decide +kernel
theorem d15_10 : decode kb15 10 = .ok (.invokevirtual 32, 3) := by decide +kernel
theorem pd_ocI : parseMethodDescriptor "()I" = some ⟨[], some .int⟩ := by decide +kernel
theorem d15_13 : decode kb15 13 = .ok (.istore_n 2, 1) := by decide +kernel
theorem d15_14 : decode kb15 14 = .ok (.aload_n 0, 1) := by decide +kernel
theorem d15_15 : decode kb15 15 = .ok (.aload_n 0, 1) := by decide +kernel
theorem d15_16 : decode kb15 16 = .ok (.getfield 79, 3) := by decide +kernel
theorem d15_19 : decode kb15 19 = .ok (.iload_n 2, 1) := by decide +kernel
theorem d15_20 : decode kb15 20 = .ok (.iadd, 1) := by decide +kernel
theorem d15_21 : decode kb15 21 = .ok (.invokevirtual 100, 3) := by decide +kernel
theorem pd_oIcV : parseMethodDescriptor "(I)V" = some ⟨[.int], none⟩ := by decide +kernel
theorem d15_24 : decode kb15 24 = .ok (.aload_n 0, 1) := by decide +kernel
theorem d15_25 : decode kb15 25 = .ok (.aload_n 0, 1) := by decide +kernel
theorem d15_26 : decode kb15 26 = .ok (.getfield 79, 3) := by decide +kernel
theorem d15_29 : decode kb15 29 = .ok (.aload_n 1, 1) := by decide +kernel
theorem d15_30 : decode kb15 30 = .ok (.invokevirtual 208, 3) := by decide +kernel
theorem pd_oILjava_lang_String_cV : parseMethodDescriptor "(ILjava/lang/String;)V" = some ⟨[.int, (.object "java/lang/String")], none⟩ := by decide +kernel
theorem d15_33 : decode kb15 33 = .ok (.aload_n 0, 1) := by decide +kernel
theorem d15_34 : decode kb15 34 = .ok (.dup, 1) := by decide +kernel
theorem d15_35 : decode kb15 35 = .ok (.getfield 79, 3) := by decide +kernel
theorem d15_38 : decode kb15 38 = .ok (.iload_n 2, 1) := by decide +kernel
theorem d15_39 : decode kb15 39 = .ok (.iadd, 1) := by decide +kernel
theorem d15_40 : decode kb15 40 = .ok (.putfield 79, 3) := by decide +kernel
theorem d15_43 : decode kb15 43 = .ok (.aload_n 0, 1) := by decide +kernel
theorem d15_44 : decode kb15 44 = .ok (.areturn, 1) := by decide +kernel
theorem pn_java_lang_StringBuilder : plainName "java/lang/StringBuilder" = true := by first | (simp [plainName, overriddenIn]; done) | decide +kernel
abbrev kb14 := jdk_67_method_7_code
theorem d14_0 : decode kb14 0 = .ok (.aload_n 0, 1) := by decide +kernel
theorem d14_1 : decode kb14 1 = .ok (.aload_n 1, 1) := by decide +kernel
theorem d14_2 : decode kb14 2 = .ok (.invokespecial 29, 3) := by decide +kernel
theorem pd_oLjava_lang_String_cLjava_lang_AbstractStringBuilder_ : parseMethodDescriptor "(Ljava/lang/String;)Ljava/lang/AbstractStringBuilder;" = some ⟨[(.object "java/lang/String")], some (.object "java/lang/AbstractStringBuilder")⟩ := by decide +kernel
theorem d14_5 : decode kb14 5 = .ok (.pop, 1) := by decide +kernel
theorem d14_6 : decode kb14 6 = .ok (.aload_n 0, 1) := by decide +kernel
theorem d14_7 : decode kb14 7 = .ok (.areturn, 1) := by decide +kernel
abbrev kb13 := jdk_68_method_2_code
theorem d13_0 : decode kb13 0 = .ok (.aload_n 0, 1) := by decide +kernel
theorem d13_1 : decode kb13 1 = .ok (.invokespecial 3, 3) := by decide +kernel
theorem d13_4 : decode kb13 4 = .ok (.getstatic 18, 3) := by decide +kernel
theorem d13_7 : decode kb13 7 = .ok (.ifCond .eq 18, 3) := by decide +kernel
theorem d13_10 : decode kb13 10 = .ok (.aload_n 0, 1) := by decide +kernel
theorem d13_11 : decode kb13 11 = .ok (.iload_n 1, 1) := by decide +kernel
theorem d13_12 : decode kb13 12 = .ok (.newarray .byte, 2) := by decide +kernel
theorem d13_14 : decode kb13 14 = .ok (.putfield 15, 3) := by decide +kernel
theorem d13_17 : decode kb13 17 = .ok (.aload_n 0, 1) := by decide +kernel
theorem d13_18 : decode kb13 18 = .ok (.iconst 0, 1) := by decide +kernel
theorem d13_19 : decode kb13 19 = .ok (.putfield 22, 3) := by decide +kernel
theorem d13_22 : decode kb13 22 = .ok (.goto 16, 3) := by decide +kernel
theorem d13_38 : decode kb13 38 = .ok (.return_, 1) := by decide +kernel
abbrev kb12 := jdk_67_method_1_code
theorem d12_0 : decode kb12 0 = .ok (.aload_n 0, 1) := by decide +kernel
theorem d12_1 : decode kb12 1 = .ok (.bipush 16, 2) := by decide +kernel
theorem d12_3 : decode kb12 3 = .ok (.invokespecial 1, 3) := by decide +kernel
theorem d12_6 : decode kb12 6 = .ok (.return_, 1) := by decide +kernel
abbrev kb30 := jdk_68_method_64_code
theorem d30_0 : decode kb30 0 = .ok (.aload_n 0, 1) := by decide +kernel
theorem d30_1 : decode kb30 1 = .ok (.getfield 15, 3) := by decide +kernel
theorem d30_4 : decode kb30 4 = .ok (.areturn, 1) := by decide +kernel
abbrev kb32 := jdk_68_method_6_code
theorem d32_0 : decode kb32 0 = .ok (.aload_n 0, 1) := by decide +kernel
theorem d32_1 : decode kb32 1 = .ok (.getfield 79, 3) := by decide +kernel
theorem d32_4 : decode kb32 4 = .ok (.ireturn, 1) := by decide +kernel
abbrev kb31 := jdk_67_method_93_code
theorem d31_0 : decode kb31 0 = .ok (.aload_n 0, 1) := by decide +kernel
theorem d31_1 : decode kb31 1 = .ok (.invokespecial 343, 3) := by decide +kernel
theorem d31_4 : decode kb31 4 = .ok (.ireturn, 1) := by decide +kernel
abbrev kb34 := jdk_65_method_132_code
theorem d34_0 : decode kb34 0 = .ok (.iload_n 1, 1) := by decide +kernel
theorem d34_1 : decode kb34 1 = .ok (.ifCond .ne 9, 3) := by decide +kernel
theorem d34_4 : decode kb34 4 = .ok (.iload_n 2, 1) := by decide +kernel
theorem d34_5 : decode kb34 5 = .ok (.aload_n 0, 1) := by decide +kernel
theorem d34_6 : decode kb34 6 = .ok (.arraylength, 1) := by decide +kernel
theorem d34_7 : decode kb34 7 = .ok (.if_icmp .eq 10, 3) := by decide +kernel
theorem d34_10 : decode kb34 10 = .ok (.aload_n 0, 1) := by decide +kernel
theorem d34_11 : decode kb34 11 = .ok (.iload_n 1, 1) := by decide +kernel
theorem d34_12 : decode kb34 12 = .ok (.iload_n 2, 1) := by decide +kernel
theorem d34_13 : decode kb34 13 = .ok (.invokestatic 339, 3) := by decide +kernel
theorem pd_oABIIcAB : parseMethodDescriptor "([BII)[B" = some ⟨[(.array .byte), .int, .int], some (.array .byte)⟩ := by decide +kernel
theorem d34_16 : decode kb34 16 = .ok (.areturn, 1) := by decide +kernel
abbrev kb29 := jdk_42_method_150_code
theorem d29_0 : decode kb29 0 = .ok (.aload_n 0, 1) := by decide +kernel
theorem d29_1 : decode kb29 1 = .ok (.invokespecial 1, 3) := by decide +kernel
theorem d29_4 : decode kb29 4 = .ok (.aload_n 1, 1) := by decide +kernel
theorem d29_5 : decode kb29 5 = .ok (.invokevirtual 552, 3) := by decide +kernel
theorem pd_ocAB : parseMethodDescriptor "()[B" = some ⟨[], some (.array .byte)⟩ := by decide +kernel
theorem d29_8 : decode kb29 8 = .ok (.astore_n 3, 1) := by decide +kernel
theorem d29_9 : decode kb29 9 = .ok (.aload_n 1, 1) := by decide +kernel
theorem d29_10 : decode kb29 10 = .ok (.invokevirtual 549, 3) := by decide +kernel
theorem d29_13 : decode kb29 13 = .ok (.istore 4, 2) := by decide +kernel
theorem d29_15 : decode kb29 15 = .ok (.aload_n 1, 1) := by decide +kernel
theorem d29_16 : decode kb29 16 = .ok (.invokevirtual 1047, 3) := by decide +kernel
theorem d29_19 : decode kb29 19 = .ok (.ifCond .eq 22, 3) := by decide +kernel
theorem d29_22 : decode kb29 22 = .ok (.aload_n 0, 1) := by decide +kernel
theorem d29_23 : decode kb29 23 = .ok (.iconst 0, 1) := by decide +kernel
theorem d29_24 : decode kb29 24 = .ok (.putfield 15, 3) := by decide +kernel
theorem d29_27 : decode kb29 27 = .ok (.aload_n 0, 1) := by decide +kernel
theorem d29_28 : decode kb29 28 = .ok (.aload_n 3, 1) := by decide +kernel
theorem d29_29 : decode kb29 29 = .ok (.iconst 0, 1) := by decide +kernel
theorem d29_30 : decode kb29 30 = .ok (.iload 4, 2) := by decide +kernel
theorem d29_32 : decode kb29 32 = .ok (.invokestatic 54, 3) := by decide +kernel
theorem d29_35 : decode kb29 35 = .ok (.putfield 9, 3) := by decide +kernel
theorem d29_38 : decode kb29 38 = .ok (.goto 59, 3) := by decide +kernel
theorem d29_97 : decode kb29 97 = .ok (.return_, 1) := by decide +kernel
theorem d29_41 : decode kb29 41 = .ok (.getstatic 38, 3) := by decide +kernel
theorem d29_44 : decode kb29 44 = .ok (.ifCond .eq 35, 3) := by decide +kernel
theorem d29_47 : decode kb29 47 = .ok (.aload_n 1, 1) := by decide +kernel
theorem d29_48 : decode kb29 48 = .ok (.getfield 1048, 3) := by decide +kernel
theorem d29_51 : decode kb29 51 = .ok (.ifCond .eq 28, 3) := by decide +kernel
theorem d29_79 : decode kb29 79 = .ok (.aload_n 0, 1) := by decide +kernel
theorem d29_80 : decode kb29 80 = .ok (.iconst 1, 1) := by decide +kernel
theorem d29_81 : decode kb29 81 = .ok (.putfield 15, 3) := by decide +kernel
theorem d29_84 : decode kb29 84 = .ok (.aload_n 0, 1) := by decide +kernel
theorem d29_85 : decode kb29 85 = .ok (.aload_n 3, 1) := by decide +kernel
theorem d29_86 : decode kb29 86 = .ok (.iconst 0, 1) := by decide +kernel
theorem d29_87 : decode kb29 87 = .ok (.iload 4, 2) := by decide +kernel
theorem d29_89 : decode kb29 89 = .ok (.iconst 1, 1) := by decide +kernel
theorem d29_90 : decode kb29 90 = .ok (.ishl, 1) := by decide +kernel
theorem d29_91 : decode kb29 91 = .ok (.invokestatic 54, 3) := by decide +kernel
theorem d29_94 : decode kb29 94 = .ok (.putfield 9, 3) := by decide +kernel
abbrev kb28 := jdk_42_method_53_code
theorem d28_0 : decode kb28 0 = .ok (.aload_n 0, 1) := by decide +kernel
theorem d28_1 : decode kb28 1 = .ok (.aload_n 1, 1) := by decide +kernel
theorem d28_2 : decode kb28 2 = .ok (.aconst_null, 1) := by decide +kernel
theorem d28_3 : decode kb28 3 = .ok (.invokespecial 489, 3) := by decide +kernel
theorem pd_oLjava_lang_AbstractStringBuilder_Ljava_lang_Void_cV : parseMethodDescriptor "(Ljava/lang/AbstractStringBuilder;Ljava/lang/Void;)V" = some ⟨[(.object "java/lang/AbstractStringBuilder"), (.object "java/lang/Void")], none⟩ := by decide +kernel
theorem d28_6 : decode kb28 6 = .ok (.return_, 1) := by decide +kernel
abbrev kb27 := jdk_67_method_42_code
theorem d27_0 : decode kb27 0 = .ok (.new 18, 3) := by decide +kernel
theorem d27_3 : decode kb27 3 = .ok (.dup, 1) := by decide +kernel
theorem d27_4 : decode kb27 4 = .ok (.aload_n 0, 1) := by decide +kernel
theorem d27_5 : decode kb27 5 = .ok (.invokespecial 137, 3) := by decide +kernel
theorem pd_oLjava_lang_StringBuilder_cV : parseMethodDescriptor "(Ljava/lang/StringBuilder;)V" = some ⟨[(.object "java/lang/StringBuilder")], none⟩ := by decide +kernel
theorem d27_8 : decode kb27 8 = .ok (.areturn, 1) := by decide +kernel
abbrev kb2 := jdk_43_method_3_code
theorem d2_0 : decode kb2 0 = .ok (.iload_n 0, 1) := by decide +kernel
theorem d2_1 : decode kb2 1 = .ok (.sipush 255, 3) := by decide +kernel
theorem d2_4 : decode kb2 4 = .ok (.if_icmp .gt 7, 3) := by decide +kernel
theorem d2_7 : decode kb2 7 = .ok (.iconst 1, 1) := by decide +kernel
theorem d2_8 : decode kb2 8 = .ok (.goto 4, 3) := by decide +kernel
theorem d2_12 : decode kb2 12 = .ok (.ireturn, 1) := by decide +kernel
theorem d2_11 : decode kb2 11 = .ok (.iconst 0, 1) := by decide +kernel
abbrev kb4 := jdk_42_method_151_code
theorem d4_0 : decode kb4 0 = .ok (.aload_n 0, 1) := by decide +kernel
theorem d4_1 : decode kb4 1 = .ok (.invokespecial 1, 3) := by decide +kernel
theorem d4_4 : decode kb4 4 = .ok (.aload_n 0, 1) := by decide +kernel
theorem d4_5 : decode kb4 5 = .ok (.aload_n 1, 1) := by decide +kernel
theorem d4_6 : decode kb4 6 = .ok (.putfield 9, 3) := by decide +kernel
theorem d4_9 : decode kb4 9 = .ok (.aload_n 0, 1) := by decide +kernel
theorem d4_10 : decode kb4 10 = .ok (.iload_n 2, 1) := by decide +kernel
theorem d4_11 : decode kb4 11 = .ok (.putfield 15, 3) := by decide +kernel
theorem d4_14 : decode kb4 14 = .ok (.return_, 1) := by decide +kernel
abbrev kb3 := jdk_43_method_46_code
theorem d3_0 : decode kb3 0 = .ok (.iconst 1, 1) := by decide +kernel
theorem d3_1 : decode kb3 1 = .ok (.newarray .byte, 2) := by decide +kernel
theorem d3_3 : decode kb3 3 = .ok (.dup, 1) := by decide +kernel
theorem d3_4 : decode kb3 4 = .ok (.iconst 0, 1) := by decide +kernel
theorem d3_5 : decode kb3 5 = .ok (.iload_n 0, 1) := by decide +kernel
theorem d3_6 : decode kb3 6 = .ok (.i2b, 1) := by decide +kernel
theorem d3_7 : decode kb3 7 = .ok (.bastore, 1) := by decide +kernel
theorem d3_8 : decode kb3 8 = .ok (.areturn, 1) := by decide +kernel
abbrev kb58 := jdk_52_method_24_code
theorem d58_0 : decode kb58 0 = .ok (.iconst 2, 1) := by decide +kernel
theorem d58_1 : decode kb58 1 = .ok (.newarray .byte, 2) := by decide +kernel
theorem d58_3 : decode kb58 3 = .ok (.astore_n 1, 1) := by decide +kernel
theorem d58_4 : decode kb58 4 = .ok (.aload_n 1, 1) := by decide +kernel
theorem d58_5 : decode kb58 5 = .ok (.iconst 0, 1) := by decide +kernel
theorem d58_6 : decode kb58 6 = .ok (.iload_n 0, 1) := by decide +kernel
theorem d58_7 : decode kb58 7 = .ok (.invokestatic 111, 3) := by decide +kernel
theorem d58_10 : decode kb58 10 = .ok (.aload_n 1, 1) := by decide +kernel
theorem d58_11 : decode kb58 11 = .ok (.areturn, 1) := by decide +kernel
abbrev kb1 := jdk_42_method_139_code
theorem d1_0 : decode kb1 0 = .ok (.getstatic 38, 3) := by decide +kernel
theorem d1_3 : decode kb1 3 = .ok (.ifCond .eq 23, 3) := by decide +kernel
theorem d1_6 : decode kb1 6 = .ok (.iload_n 0, 1) := by decide +kernel
theorem d1_7 : decode kb1 7 = .ok (.invokestatic 1015, 3) := by decide +kernel
theorem pd_oCcZ : parseMethodDescriptor "(C)Z" = some ⟨[.char], some .boolean⟩ := by decide +kernel
theorem d1_10 : decode kb1 10 = .ok (.ifCond .eq 16, 3) := by decide +kernel
theorem d1_13 : decode kb1 13 = .ok (.new 10, 3) := by decide +kernel
theorem d1_16 : decode kb1 16 = .ok (.dup, 1) := by decide +kernel
theorem d1_17 : decode kb1 17 = .ok (.iload_n 0, 1) := by decide +kernel
theorem d1_18 : decode kb1 18 = .ok (.invokestatic 1018, 3) := by decide +kernel
theorem pd_oCcAB : parseMethodDescriptor "(C)[B" = some ⟨[.char], some (.array .byte)⟩ := by decide +kernel
theorem d1_21 : decode kb1 21 = .ok (.iconst 0, 1) := by decide +kernel
theorem d1_22 : decode kb1 22 = .ok (.invokespecial 209, 3) := by decide +kernel
theorem pd_oABBcV : parseMethodDescriptor "([BB)V" = some ⟨[(.array .byte), .byte], none⟩ := by decide +kernel
theorem d1_25 : decode kb1 25 = .ok (.areturn, 1) := by decide +kernel
theorem d1_26 : decode kb1 26 = .ok (.new 10, 3) := by decide +kernel
theorem d1_29 : decode kb1 29 = .ok (.dup, 1) := by decide +kernel
theorem d1_30 : decode kb1 30 = .ok (.iload_n 0, 1) := by decide +kernel
theorem d1_31 : decode kb1 31 = .ok (.invokestatic 1021, 3) := by decide +kernel
theorem d1_34 : decode kb1 34 = .ok (.iconst 1, 1) := by decide +kernel
theorem d1_35 : decode kb1 35 = .ok (.invokespecial 209, 3) := by decide +kernel
theorem d1_38 : decode kb1 38 = .ok (.areturn, 1) := by decide +kernel
theorem pn_java_lang_Throwable : plainName "java/lang/Throwable" = true := by first | (simp [plainName, overriddenIn]; done) | decide +kernel
abbrev kb39 := jdk_78_method_5_code
theorem d39_0 : decode kb39 0 = .ok (.aload_n 0, 1) := by decide +kernel
theorem d39_1 : decode kb39 1 = .ok (.invokespecial 1, 3) := by decide +kernel
theorem d39_4 : decode kb39 4 = .ok (.aload_n 0, 1) := by decide +kernel
theorem d39_5 : decode kb39 5 = .ok (.aload_n 0, 1) := by decide +kernel
theorem d39_6 : decode kb39 6 = .ok (.putfield 7, 3) := by decide +kernel
theorem d39_9 : decode kb39 9 = .ok (.aload_n 0, 1) := by decide +kernel
theorem d39_10 : decode kb39 10 = .ok (.getstatic 13, 3) := by decide +kernel
theorem d39_13 : decode kb39 13 = .ok (.putfield 17, 3) := by decide +kernel
theorem d39_16 : decode kb39 16 = .ok (.aload_n 0, 1) := by decide +kernel
theorem d39_17 : decode kb39 17 = .ok (.getstatic 20, 3) := by decide +kernel
theorem d39_20 : decode kb39 20 = .ok (.putfield 24, 3) := by decide +kernel
theorem d39_23 : decode kb39 23 = .ok (.iload 4, 2) := by decide +kernel
theorem d39_25 : decode kb39 25 = .ok (.ifCond .eq 11, 3) := by decide +kernel
theorem d39_36 : decode kb39 36 = .ok (.aload_n 0, 1) := by decide +kernel
theorem d39_37 : decode kb39 37 = .ok (.aconst_null, 1) := by decide +kernel
theorem d39_38 : decode kb39 38 = .ok (.putfield 17, 3) := by decide +kernel
theorem d39_41 : decode kb39 41 = .ok (.aload_n 0, 1) := by decide +kernel
theorem d39_42 : decode kb39 42 = .ok (.aload_n 1, 1) := by decide +kernel
theorem d39_43 : decode kb39 43 = .ok (.putfield 31, 3) := by decide +kernel
theorem d39_46 : decode kb39 46 = .ok (.aload_n 0, 1) := by decide +kernel
theorem d39_47 : decode kb39 47 = .ok (.aload_n 2, 1) := by decide +kernel
theorem d39_48 : decode kb39 48 = .ok (.putfield 7, 3) := by decide +kernel
theorem d39_51 : decode kb39 51 = .ok (.iload_n 3, 1) := by decide +kernel
theorem d39_52 : decode kb39 52 = .ok (.ifCond .ne 8, 3) := by decide +kernel
theorem d39_55 : decode kb39 55 = .ok (.aload_n 0, 1) := by decide +kernel
theorem d39_56 : decode kb39 56 = .ok (.aconst_null, 1) := by decide +kernel
theorem d39_57 : decode kb39 57 = .ok (.putfield 24, 3) := by decide +kernel
theorem d39_60 : decode kb39 60 = .ok (.return_, 1) := by decide +kernel
theorem pn_java_lang_Exception : plainName "java/lang/Exception" = true := by first | (simp [plainName, overriddenIn]; done) | decide +kernel
abbrev kb38 := jdk_59_method_5_code
theorem d38_0 : decode kb38 0 = .ok (.aload_n 0, 1) := by decide +kernel
theorem d38_1 : decode kb38 1 = .ok (.aload_n 1, 1) := by decide +kernel
theorem d38_2 : decode kb38 2 = .ok (.aload_n 2, 1) := by decide +kernel
theorem d38_3 : decode kb38 3 = .ok (.iload_n 3, 1) := by decide +kernel
theorem d38_4 : decode kb38 4 = .ok (.iload 4, 2) := by decide +kernel
theorem d38_6 : decode kb38 6 = .ok (.invokespecial 16, 3) := by decide +kernel
theorem pd_oLjava_lang_String_Ljava_lang_Throwable_ZZcV : parseMethodDescriptor "(Ljava/lang/String;Ljava/lang/Throwable;ZZ)V" = some ⟨[(.object "java/lang/String"), (.object "java/lang/Throwable"), .boolean, .boolean], none⟩ := by decide +kernel
theorem d38_9 : decode kb38 9 = .ok (.return_, 1) := by decide +kernel
theorem pn_com_example_spool_spool_http_HttpError : plainName "com/example/spool/spool/http/HttpError" = true := by first | (simp [plainName, overriddenIn]; done) | decide +kernel
abbrev kb37 := prog_2_method_9_code
theorem d37_0 : decode kb37 0 = .ok (.aload_n 0, 1) := by decide +kernel
theorem d37_1 : decode kb37 1 = .ok (.aload_n 3, 1) := by decide +kernel
theorem d37_2 : decode kb37 2 = .ok (.aconst_null, 1) := by decide +kernel
theorem d37_3 : decode kb37 3 = .ok (.iconst 0, 1) := by decide +kernel
theorem d37_4 : decode kb37 4 = .ok (.iconst 0, 1) := by decide +kernel
theorem d37_5 : decode kb37 5 = .ok (.invokespecial 48, 3) := by decide +kernel
theorem d37_8 : decode kb37 8 = .ok (.aload_n 0, 1) := by decide +kernel
theorem d37_9 : decode kb37 9 = .ok (.iload_n 1, 1) := by decide +kernel
theorem d37_10 : decode kb37 10 = .ok (.putfield 53, 3) := by decide +kernel
theorem d37_13 : decode kb37 13 = .ok (.aload_n 0, 1) := by decide +kernel
theorem d37_14 : decode kb37 14 = .ok (.aload_n 2, 1) := by decide +kernel
theorem d37_15 : decode kb37 15 = .ok (.putfield 57, 3) := by decide +kernel
theorem d37_18 : decode kb37 18 = .ok (.return_, 1) := by decide +kernel
abbrev kb40 := prog_2_method_12_code
theorem d40_0 : decode kb40 0 = .ok (.aload_n 0, 1) := by decide +kernel
theorem d40_1 : decode kb40 1 = .ok (.getfield 44, 3) := by decide +kernel
theorem d40_4 : decode kb40 4 = .ok (.areturn, 1) := by decide +kernel
abbrev kb41 := jdk_78_method_6_code
theorem d41_0 : decode kb41 0 = .ok (.aload_n 0, 1) := by decide +kernel
theorem d41_1 : decode kb41 1 = .ok (.getfield 31, 3) := by decide +kernel
theorem d41_4 : decode kb41 4 = .ok (.areturn, 1) := by decide +kernel
abbrev kb42 := prog_2_method_10_code
theorem d42_0 : decode kb42 0 = .ok (.aload_n 0, 1) := by decide +kernel
theorem d42_1 : decode kb42 1 = .ok (.getfield 53, 3) := by decide +kernel
theorem d42_4 : decode kb42 4 = .ok (.ireturn, 1) := by decide +kernel
abbrev kb43 := prog_2_method_11_code
theorem d43_0 : decode kb43 0 = .ok (.aload_n 0, 1) := by decide +kernel
theorem d43_1 : decode kb43 1 = .ok (.getfield 57, 3) := by decide +kernel
theorem d43_4 : decode kb43 4 = .ok (.areturn, 1) := by decide +kernel
abbrev kb11 := prog_2_method_8_code
theorem d11_0 : decode kb11 0 = .ok (.new 1, 3) := by decide +kernel
theorem d11_3 : decode kb11 3 = .ok (.dup, 1) := by decide +kernel
theorem d11_4 : decode kb11 4 = .ok (.sipush 405, 3) := by decide +kernel
theorem d11_7 : decode kb11 7 = .ok (.ldc 25, 2) := by decide +kernel
theorem d11_9 : decode kb11 9 = .ok (.new 27, 3) := by decide +kernel
theorem d11_12 : decode kb11 12 = .ok (.dup, 1) := by decide +kernel
theorem d11_13 : decode kb11 13 = .ok (.invokespecial 29, 3) := by decide +kernel
theorem d11_16 : decode kb11 16 = .ok (.ldc 32, 2) := by decide +kernel
theorem d11_18 : decode kb11 18 = .ok (.invokevirtual 34, 3) := by decide +kernel
theorem pd_oLjava_lang_String_cLjava_lang_StringBuilder_ : parseMethodDescriptor "(Ljava/lang/String;)Ljava/lang/StringBuilder;" = some ⟨[(.object "java/lang/String")], some (.object "java/lang/StringBuilder")⟩ := by decide +kernel
theorem d11_21 : decode kb11 21 = .ok (.aload_n 0, 1) := by decide +kernel
theorem d11_22 : decode kb11 22 = .ok (.invokevirtual 34, 3) := by decide +kernel
theorem d11_25 : decode kb11 25 = .ok (.ldc 38, 2) := by decide +kernel
theorem d11_27 : decode kb11 27 = .ok (.invokevirtual 34, 3) := by decide +kernel
theorem d11_30 : decode kb11 30 = .ok (.invokevirtual 40, 3) := by decide +kernel
theorem pd_ocLjava_lang_String_ : parseMethodDescriptor "()Ljava/lang/String;" = some ⟨[], some (.object "java/lang/String")⟩ := by decide +kernel
theorem d11_33 : decode kb11 33 = .ok (.invokespecial 5, 3) := by decide +kernel
theorem pd_oILjava_lang_String_Ljava_lang_String_cV : parseMethodDescriptor "(ILjava/lang/String;Ljava/lang/String;)V" = some ⟨[.int, (.object "java/lang/String"), (.object "java/lang/String")], none⟩ := by decide +kernel
theorem d11_36 : decode kb11 36 = .ok (.astore_n 1, 1) := by decide +kernel
theorem d11_37 : decode kb11 37 = .ok (.aload_n 1, 1) := by decide +kernel
theorem d11_38 : decode kb11 38 = .ok (.aload_n 0, 1) := by decide +kernel
theorem d11_39 : decode kb11 39 = .ok (.putfield 44, 3) := by decide +kernel
theorem d11_42 : decode kb11 42 = .ok (.aload_n 1, 1) := by decide +kernel
theorem d11_43 : decode kb11 43 = .ok (.areturn, 1) := by decide +kernel
theorem pn_com_example_spool_spool_http_HttpErrorMethodNotAllowedPinLaw : plainName "com/example/spool/spool/http/HttpErrorMethodNotAllowedPinLaw" = true := by first | (simp [plainName, overriddenIn]; done) | decide +kernel
theorem pd_oLjava_lang_String_cLcom_example_spool_spool_http_HttpError_ : parseMethodDescriptor "(Ljava/lang/String;)Lcom/example/spool/spool/http/HttpError;" = some ⟨[(.object "java/lang/String")], some (.object "com/example/spool/spool/http/HttpError")⟩ := by decide +kernel
theorem pd_oLjava_lang_Object_cZ : parseMethodDescriptor "(Ljava/lang/Object;)Z" = some ⟨[(.object "java/lang/Object")], some .boolean⟩ := by decide +kernel
theorem pd_oCcLjava_lang_String_ : parseMethodDescriptor "(C)Ljava/lang/String;" = some ⟨[.char], some (.object "java/lang/String")⟩ := by decide +kernel
theorem pd_oACcV : parseMethodDescriptor "([C)V" = some ⟨[(.array .char)], none⟩ := by decide +kernel
abbrev EL : List (String × Nat) := [("com/example/spool/spool/http/HttpError", 25), ("com/example/spool/spool/http/HttpError", 32), ("com/example/spool/spool/http/HttpError", 38), ("com/example/spool/spool/http/HttpErrorMethodNotAllowedPinLaw", 8), ("com/example/spool/spool/http/HttpErrorMethodNotAllowedPinLaw", 10), ("com/example/spool/spool/http/HttpErrorMethodNotAllowedPinLaw", 38)]
theorem strW {Z : State} {a0 : Array Value} (hw : ∀ d ∈ tables_1, d.before a0 Z = true) : ∀ a ∈ Bundle.stringAtoms, a.before a0 Z = true := fun d hd => hw d ((by decide +kernel : ∀ d ∈ Bundle.stringAtoms, d ∈ tables_1) d hd)
theorem elW {Z : State} {a0 : Array Value} (hw : ∀ d ∈ tables_1, d.before a0 Z = true) : EW Z a0 EL := (EW.cons (hw _ w_51) (by decide +kernel) (EW.cons (hw _ w_72) (by decide +kernel) (EW.cons (hw _ w_143) (by decide +kernel) (EW.cons (hw _ w_244) (by decide +kernel) (EW.cons (hw _ w_245) (by decide +kernel) (EW.cons (hw _ w_230) (by decide +kernel) EW.nil))))))
def ChI (r : Int32) : Prop := 0 ≤ r.toInt ∧ r.toInt ≤ 65535
abbrev lo8 (x : Int32) : Int32 := ((Int32.toInt8 (x >>> ((0 : Int32) &&& 31))).toInt32)
abbrev hi8 (x : Int32) : Int32 := ((Int32.toInt8 (x >>> ((8 : Int32) &&& 31))).toInt32)
theorem gch (x : Int32) (hx : ChI x) : ((Int32.toUInt32 (((lo8 x &&& (255 : Int32)) <<< ((0 : Int32) &&& 31)) ||| ((hi8 x &&& (255 : Int32)) <<< ((8 : Int32) &&& 31)))).toUInt16.toUInt32.toInt32) = x := by
  have := hx.1; have := hx.2
  have a1 := c_ishr x 0 0 (by decide)
  have a2 := c_i2b (x >>> ((0 : Int32) &&& 31))
  have a3 := c_mask (lo8 x) 255 8 (by decide) (by decide)
  have a4 := c_ishl (lo8 x &&& 255) 0 0 (by decide)
  have b1 := c_ishr x 8 8 (by decide)
  have b2 := c_i2b (x >>> ((8 : Int32) &&& 31))
  have b3 := c_mask (hi8 x) 255 8 (by decide) (by decide)
  have b4 := c_ishl (hi8 x &&& 255) 8 8 (by decide)
  have r1 := Int32.le_toInt (((lo8 x) &&& 255) <<< ((0 : Int32) &&& 31))
  have r2 := Int32.toInt_lt (((lo8 x) &&& 255) <<< ((0 : Int32) &&& 31))
  have r3 := Int32.le_toInt (((hi8 x) &&& 255) <<< ((8 : Int32) &&& 31))
  have r4 := Int32.toInt_lt (((hi8 x) &&& 255) <<< ((8 : Int32) &&& 31))
  have e1 : (lo8 x).toInt = ((x >>> ((0 : Int32) &&& 31)).toInt8.toInt32).toInt := rfl
  have e2 : (hi8 x).toInt = ((x >>> ((8 : Int32) &&& 31)).toInt8.toInt32).toInt := rfl
  have c1 := c_or' (((lo8 x) &&& 255) <<< ((0 : Int32) &&& 31)) (((hi8 x) &&& 255) <<< ((8 : Int32) &&& 31)) 8 (by decide) 256 (by decide) (by omega) (by omega) (by omega)
  have c2 := c_i2c ((((lo8 x) &&& 255) <<< ((0 : Int32) &&& 31)) ||| (((hi8 x) &&& 255) <<< ((8 : Int32) &&& 31)))
  apply Int32.toInt_inj.mp
  omega
theorem b8and (x : Int32) (hx : ChI x) (hp : ¬ (255 : Int32) < x) : (((Int32.toInt8 x).toInt32) &&& (255 : Int32)) = x := by
  have := hx.1; have := hx.2
  rw [Int32.lt_iff_toInt_lt] at hp
  have h255 : (255 : Int32).toInt = 255 := rfl
  rw [h255] at hp
  have a2 := c_i2b x
  have a3 := c_mask (Int32.toInt8 x).toInt32 255 8 (by decide) (by decide)
  apply Int32.toInt_inj.mp
  omega
theorem narC (x : Int32) (hx : ChI x) : nar .char x = x := by
  have := hx.1; have := hx.2
  have h : nar .char x = (Int32.toUInt32 x).toUInt16.toUInt32.toInt32 := rfl
  have := c_i2c x
  rw [h]; apply Int32.toInt_inj.mp; omega
theorem chC16 (x : Int32) : ChI ((Int32.toUInt32 x).toUInt16.toUInt32.toInt32) := by
  have := c_i2c x; constructor <;> omega
theorem chNar (x : Int32) : ChI (nar .char x) := chC16 x
theorem combG (x y a b c q K : Int32) (k1 : a.toInt = 55296) (k2 : b.toInt = 56320) (k3 : c.toInt = 65536) (k4 : K.toInt = -56613888) (hq : q.toBitVec.toNat % 32 = 10) : (((x - a) <<< (q &&& 31)) + (y - b)) + c = ((x <<< (q &&& 31)) + y) + K := by
  have a1 := c_ishl (x - a) q 10 hq
  have a' := c_isub x a
  have b1 := c_ishl x q 10 hq
  have c' := c_isub y b
  have d := c_iadd ((x - a) <<< (q &&& 31)) (y - b)
  have e := c_iadd (((x - a) <<< (q &&& 31)) + (y - b)) c
  have f := c_iadd (x <<< (q &&& 31)) y
  have g := c_iadd ((x <<< (q &&& 31)) + y) K
  apply Int32.toInt_inj.mp
  have r1 := Int32.le_toInt ((((x - a) <<< (q &&& 31)) + (y - b)) + c)
  have r2 := Int32.toInt_lt ((((x - a) <<< (q &&& 31)) + (y - b)) + c)
  have r3 := Int32.le_toInt (((x <<< (q &&& 31)) + y) + K)
  have r4 := Int32.toInt_lt (((x <<< (q &&& 31)) + y) + K)
  generalize ((((x - a) <<< (q &&& 31)) + (y - b)) + c).toInt = A at *
  generalize (((x <<< (q &&& 31)) + y) + K).toInt = B at *
  generalize (((x - a) <<< (q &&& 31)) + (y - b)).toInt = C at *
  generalize ((x <<< (q &&& 31)) + y).toInt = D at *
  generalize ((x - a) <<< (q &&& 31)).toInt = E at *
  generalize (x <<< (q &&& 31)).toInt = F at *
  generalize (x - a).toInt = G at *
  generalize (y - b).toInt = H at *
  omega
theorem k566 : (-56613888 : Int32).toInt = -56613888 := by
  have h := c_ineg 56613888
  have r1 := Int32.le_toInt (-56613888)
  have r2 := Int32.toInt_lt (-56613888)
  have e : (56613888 : Int32).toInt = 56613888 := rfl
  rw [e] at h
  generalize (-56613888 : Int32).toInt = A at *
  omega
theorem comb (x y : Int32) : (((x - (55296 : Int32)) <<< ((10 : Int32) &&& 31)) + (y - (56320 : Int32))) + (65536 : Int32) = ((x <<< ((10 : Int32) &&& 31)) + y) + (-56613888 : Int32) :=
  combG x y _ _ _ 10 _ rfl rfl rfl k566 (by decide)
theorem combBG (x y a b c q K u : Int32) (k1 : a.toInt = 55296) (k2 : b.toInt = 56320) (k3 : c.toInt = 65536) (k4 : K.toInt = -56613888) (k5 : u.toInt = 57344) (hq : q.toBitVec.toNat % 32 = 10) (hx : ¬ x < a) (hx' : x < b) (hy : ¬ y < b) (hy' : y < u) : ¬ (((x <<< (q &&& 31)) + y) + K) < c := by
  have b1 := c_ishl x q 10 hq
  have f := c_iadd (x <<< (q &&& 31)) y
  have g := c_iadd ((x <<< (q &&& 31)) + y) K
  rw [Int32.lt_iff_toInt_lt] at *
  have r1 := Int32.le_toInt (x <<< (q &&& 31))
  have r2 := Int32.toInt_lt (x <<< (q &&& 31))
  have r3 := Int32.le_toInt (((x <<< (q &&& 31)) + y) + K)
  have r4 := Int32.toInt_lt (((x <<< (q &&& 31)) + y) + K)
  generalize (((x <<< (q &&& 31)) + y) + K).toInt = B at *
  generalize ((x <<< (q &&& 31)) + y).toInt = D at *
  generalize (x <<< (q &&& 31)).toInt = F at *
  omega
theorem combB (x y : Int32) (hx : ¬ x < (55296 : Int32)) (hx' : x < (56320 : Int32)) (hy : ¬ y < (56320 : Int32)) (hy' : y < (57344 : Int32)) : ¬ (((x <<< ((10 : Int32) &&& 31)) + y) + (-56613888 : Int32)) < (65536 : Int32) :=
  combBG x y _ _ _ 10 _ _ rfl rfl rfl k566 rfl (by decide) hx hx' hy hy'

abbrev SAs (Z : State) : Prop := Sta Z Z.heap "java/lang/StringUTF16" "$assertionsDisabled" "Z" (.int (1 : Int32))
abbrev SHb (Z : State) : Prop := Sta Z Z.heap "java/lang/StringUTF16" "HI_BYTE_SHIFT" "I" (.int (0 : Int32))
abbrev SLb (Z : State) : Prop := Sta Z Z.heap "java/lang/StringUTF16" "LO_BYTE_SHIFT" "I" (.int (8 : Int32))
abbrev SFm (Z : State) (fm : Value) : Prop := Sta Z Z.heap "jdk/internal/util/Preconditions" "SIOOBE_FORMATTER" "Ljava/util/function/BiFunction;" fm
def ivL (xs : List Int32) : List Value := xs.map .int
theorem ivl (xs : List Int32) : (ivL xs).length = xs.length := List.length_map ..
theorem ivg {xs : List Int32} {j : Int32} {i : Nat} (h : j.toNatClampNeg = i) : (ivL xs).getD j.toNatClampNeg (.int (0 : Int32)) = .int (xs.getD i 0) := by
  subst h; unfold ivL; simp only [List.getD_eq_getElem?_getD, List.getElem?_map]; cases xs[j.toNatClampNeg]? <;> rfl
theorem ivs (xs : List Int32) (i : Nat) (v : Int32) : (ivL xs).set i (.int v) = ivL (xs.set i v) := by unfold ivL; rw [List.map_set]
theorem on_s (i : Nat) : Int32.ofNat i + 1 = Int32.ofNat (i + 1) := by rw [Int32.ofNat_add]; rfl
theorem on_i {i : Nat} (h : i < 2 ^ 31) : (Int32.ofNat i).toInt = i := Int32.toInt_ofNat_of_lt h
theorem on_g {i : Nat} (h : i < 2 ^ 31) : ¬ Int32.ofNat i < 0 := by rw [Int32.lt_iff_toInt_lt, on_i h]; have : (0 : Int32).toInt = 0 := rfl; omega
theorem on_n {i : Nat} (h : i < 2 ^ 31) : (Int32.ofNat i).toNatClampNeg = i := by simp only [Int32.toNatClampNeg, on_i h]; omega
theorem on_l {i k : Nat} (h : i < k) (hk : k < 2 ^ 31) : Int32.ofNat i < Int32.ofNat k := by rw [Int32.lt_iff_toInt_lt, on_i (by omega), on_i hk]; omega
theorem on_nl {i k : Nat} (h : k ≤ i) (hk : i < 2 ^ 31) : ¬ Int32.ofNat i < Int32.ofNat k := by have a := on_i hk; have b := on_i (i := k) (by omega); rw [Int32.lt_iff_toInt_lt]; omega
abbrev b8f (x : Int32) : Int32 := (Int32.toInt8 x).toInt32
theorem ivr (n : Nat) : ivL (List.replicate n 0) = [] ++ List.replicate n (.int (0 : Int32)) := by unfold ivL; simp
def mixB (xs : List Int32) (i : Nat) : List Int32 := (xs.take i).map b8f ++ List.replicate (xs.length - i) 0
theorem mixL (xs : List Int32) (i : Nat) (h : i ≤ xs.length) : (mixB xs i).length = xs.length := by unfold mixB; simp; omega
theorem mix0 (xs : List Int32) : mixB xs 0 = List.replicate xs.length 0 := by unfold mixB; simp
theorem mixN (xs : List Int32) : mixB xs xs.length = xs.map b8f := by unfold mixB; simp
theorem getD_lt {xs : List Int32} {i : Nat} (h : i < xs.length) : xs.getD i 0 = xs[i] := by simp [List.getD_eq_getElem?_getD, h]
theorem mixS {xs : List Int32} {i : Nat} (h : i < xs.length) : (mixB xs i).set i (b8f (xs.getD i 0)) = mixB xs (i + 1) := by
  rw [getD_lt h]
  apply List.ext_getElem
  · rw [List.length_set, mixL _ _ (by omega), mixL _ _ (by omega)]
  · intro k h1 h2
    rw [List.length_set, mixL _ _ (by omega)] at h1
    rw [List.getElem_set]
    unfold mixB
    by_cases q : i = k
    · subst q; simp [List.getElem_append]; intro hh; omega
    · rw [if_neg q]
      by_cases r : k < i
      · simp [List.getElem_append]; rw [dif_pos (by omega), dif_pos (by omega)]
      · simp [List.getElem_append]; rw [dif_neg (by omega), dif_neg (by omega)]
theorem on_2 {i : Nat} (h : i < 2 ^ 20) : Int32.ofNat i <<< ((1 : Int32) &&& 31) = Int32.ofNat (2 * i) := by
  have a := c_ishl (Int32.ofNat i) 1 1 (by decide)
  have b := on_i (i := i) (by omega)
  have c := on_i (i := 2 * i) (by omega)
  have r1 := Int32.le_toInt (Int32.ofNat i <<< ((1 : Int32) &&& 31))
  have r2 := Int32.toInt_lt (Int32.ofNat i <<< ((1 : Int32) &&& 31))
  apply Int32.toInt_inj.mp
  rw [c]; rw [b] at a
  generalize (Int32.ofNat i <<< ((1 : Int32) &&& 31)).toInt = A at *
  omega
def u8 (xs : List Int32) : List Int32 := xs.flatMap fun x => [lo8 x, hi8 x]
theorem u8_nil : u8 [] = [] := rfl
theorem u8_cons (x : Int32) (xs : List Int32) : u8 (x :: xs) = lo8 x :: hi8 x :: u8 xs := rfl
theorem u8_app (xs ys : List Int32) : u8 (xs ++ ys) = u8 xs ++ u8 ys := by unfold u8; simp
theorem u8_len (xs : List Int32) : (u8 xs).length = 2 * xs.length := by
  induction xs with
  | nil => rfl
  | cons x xs ih => rw [u8_cons]; simp [ih]; omega
/-- two bytes set behind a full front -/
theorem set2 (F : List Int32) (a b : Int32) (n : Nat) : ((F ++ List.replicate (n + 2) 0).set F.length a).set (F.length + 1) b = F ++ [a, b] ++ List.replicate n 0 := by
  rw [List.set_append_right _ _ (Nat.le_refl _), Nat.sub_self, List.set_append_right _ _ (by omega), show F.length + 1 - F.length = 1 by omega]
  simp [List.replicate_succ]
def mixU (xs : List Int32) (i : Nat) : List Int32 := u8 (xs.take i) ++ List.replicate (2 * (xs.length - i)) 0
theorem mixUL (xs : List Int32) (i : Nat) (h : i ≤ xs.length) : (mixU xs i).length = 2 * xs.length := by unfold mixU; rw [List.length_append, u8_len, List.length_take, List.length_replicate]; omega
theorem mixU0 (xs : List Int32) : mixU xs 0 = List.replicate (2 * xs.length) 0 := by unfold mixU; simp [u8_nil]
theorem mixUN (xs : List Int32) : mixU xs xs.length = u8 xs := by unfold mixU; simp
theorem mixUS {xs : List Int32} {i : Nat} (h : i < xs.length) : ((mixU xs i).set (2 * i) (lo8 (xs.getD i 0))).set (2 * i + 1) (hi8 (xs.getD i 0)) = mixU xs (i + 1) := by
  have e : (u8 (xs.take i)).length = 2 * i := by rw [u8_len, List.length_take]; omega
  have t : xs.take (i + 1) = xs.take i ++ [xs.getD i 0] := by rw [getD_lt h]; simp
  unfold mixU
  have q := set2 (u8 (xs.take i)) (lo8 (xs.getD i 0)) (hi8 (xs.getD i 0)) (2 * (xs.length - (i + 1)))
  rw [e, show 2 * (xs.length - (i + 1)) + 2 = 2 * (xs.length - i) by omega] at q
  rw [q, t, u8_app]; rfl
theorem on_ne {i k : Nat} (h : i < k) (hk : k < 2 ^ 31) : ¬ Int32.ofNat i = Int32.ofNat k := fun e => by
  have a := on_i (i := i) (by omega); have b := on_i hk; rw [e, b] at a; omega
theorem u8_g {xs : List Int32} : ∀ {i : Nat}, i < xs.length → (u8 xs).getD (2 * i) 0 = lo8 (xs.getD i 0) ∧ (u8 xs).getD (2 * i + 1) 0 = hi8 (xs.getD i 0) := by
  induction xs with
  | nil => intro i h; simp at h
  | cons x xs ih =>
    intro i h
    cases i with
    | zero => rw [u8_cons]; exact ⟨rfl, rfl⟩
    | succ i =>
      rw [u8_cons]; have := ih (i := i) (by simp at h; omega)
      exact ⟨this.1, this.2⟩
theorem codL (n : Nat) : nar .byte ((Int32.toInt8 (XT.ushr (Int32.ofNat n - Int32.ofNat n) (31 : Int32))).toInt32) = 0 := by rw [Int32.sub_self]; decide +kernel
theorem codU (n : Nat) (h0 : 0 < n) (h : n ≤ 64) : nar .byte ((Int32.toInt8 (XT.ushr (Int32.ofNat n - Int32.ofNat (2 * n)) (31 : Int32))).toInt32) = 1 := by
  have a := on_i (i := n) (by omega); have b := on_i (i := 2 * n) (by omega)
  have c := c_isub (Int32.ofNat n) (Int32.ofNat (2 * n))
  have r1 := Int32.le_toInt (Int32.ofNat n - Int32.ofNat (2 * n)); have r2 := Int32.toInt_lt (Int32.ofNat n - Int32.ofNat (2 * n))
  have d : (XT.ushr (Int32.ofNat n - Int32.ofNat (2 * n)) (31 : Int32)).toInt = _ := c_iushr (Int32.ofNat n - Int32.ofNat (2 * n)) 31 31 (by decide) (by decide)
  have e : XT.ushr (Int32.ofNat n - Int32.ofNat (2 * n)) (31 : Int32) = 1 := by
    apply Int32.toInt_inj.mp; rw [d]; have k : (1 : Int32).toInt = 1 := rfl
    rw [k]; rw [a, b] at c
    generalize (Int32.ofNat n - Int32.ofNat (2 * n)).toInt = A at *
    omega
  rw [e]; decide +kernel
def Lat (xs : List Int32) : Prop := ∀ k, k < xs.length → ¬ (255 : Int32) < xs.getD k 0
theorem nLat {xs : List Int32} (h : ∃ k, k < xs.length ∧ (255 : Int32) < xs.getD k 0) : ¬ Lat xs := fun q => by obtain ⟨k, a, b⟩ := h; exact q k a b
/-- d holds the bytes of xs in the coder co -/
def BX (Z : State) (h : Heap) (d : Addr) (kd : ClassId) (co : Int32) (xs : List Int32) : Prop :=
  (co = 0 ∧ Lat xs ∧ Arv Z h d kd .byte (Int32.ofNat xs.length) (ivL (xs.map b8f)) (.int (0 : Int32))) ∨ (co = 1 ∧ ¬ Lat xs ∧ Arv Z h d kd .byte (Int32.ofNat (2 * xs.length)) (ivL (u8 xs)) (.int (0 : Int32)))
theorem BX.lt {Z : State} {h : Heap} {d : Addr} {kd : ClassId} {co : Int32} {xs : List Int32} (B : BX Z h d kd co xs) : d < h.size := by rcases B with ⟨-, -, V⟩ | ⟨-, -, V⟩ <;> exact V.lt
/-- the String at a says xs, in the coder co; it and its bytes lie below B -/
def SX (Z : State) (h : Heap) (a : Addr) (co : Int32) (xs : List Int32) (B : Nat) : Prop := B ≤ h.size ∧ a < B ∧ Exa Z h a "java/lang/String" ∧ Fld Z h a "java/lang/String" "coder" "B" (.int co) ∧ ∃ d kd, d < B ∧ Fld Z h a "java/lang/String" "value" "[B" (.ref d) ∧ BX Z h d kd co xs
section SXs
variable {Z : State} {h h' : Heap} {a b d : Addr} {kd : ClassId} {co : Int32} {xs : List Int32} {B sl : Nat} {v : Value} {ws : List Addr}
theorem BX.ext (F : BX Z h d kd co xs) (E : Ext h h') : BX Z h' d kd co xs := by rcases F with ⟨a, b, c⟩ | ⟨a, b, c⟩; exact Or.inl ⟨a, b, c.ext E⟩; exact Or.inr ⟨a, b, c.ext E⟩
theorem BX.other (F : BX Z h d kd co xs) (W : Wr h h' b sl v) (q : d ≠ b) : BX Z h' d kd co xs := by rcases F with ⟨a, b, c⟩ | ⟨a, b, c⟩; exact Or.inl ⟨a, b, c.other W q⟩; exact Or.inr ⟨a, b, c.other W q⟩
theorem BX.keep (F : BX Z h d kd co xs) (K : Keep h h' ws) (q : d ∉ ws) : BX Z h' d kd co xs := by rcases F with ⟨a, b, c⟩ | ⟨a, b, c⟩; exact Or.inl ⟨a, b, c.keep K q⟩; exact Or.inr ⟨a, b, c.keep K q⟩
theorem SX.le (F : SX Z h a co xs B) : B ≤ h.size := F.1
theorem SX.lt (F : SX Z h a co xs B) : a < h.size := Nat.lt_of_lt_of_le F.2.1 F.1
theorem SX.exa (F : SX Z h a co xs B) : Exa Z h a "java/lang/String" := F.2.2.1
theorem SX.ext (F : SX Z h a co xs B) (E : Ext h h') : SX Z h' a co xs B := by
  obtain ⟨h1, h2, h3, h4, d, kd, h5, h6, h7⟩ := F
  exact ⟨Nat.le_trans h1 E.1, h2, h3.ext E, h4.ext E, d, kd, h5, h6.ext E, h7.ext E⟩
theorem SX.other (F : SX Z h a co xs B) (W : Wr h h' b sl v) (q : B ≤ b) : SX Z h' a co xs B := by
  obtain ⟨h1, h2, h3, h4, d, kd, h5, h6, h7⟩ := F
  have na : a ≠ b := Nat.ne_of_lt (Nat.lt_of_lt_of_le h2 q)
  have nd : d ≠ b := Nat.ne_of_lt (Nat.lt_of_lt_of_le h5 q)
  exact ⟨Nat.le_trans h1 (Nat.le_of_eq W.size.symm), h2, h3.wr W, h4.other W (Or.inl na), d, kd, h5, h6.other W (Or.inl na), h7.other W nd⟩
theorem SX.keep (F : SX Z h a co xs B) (K : Keep h h' ws) (q : ∀ x ∈ ws, B ≤ x) : SX Z h' a co xs B := by
  obtain ⟨h1, h2, h3, h4, d, kd, h5, h6, h7⟩ := F
  have na : a ∉ ws := fun m => absurd h2 (Nat.not_lt.mpr (q _ m))
  have nd : d ∉ ws := fun m => absurd h5 (Nat.not_lt.mpr (q _ m))
  exact ⟨Nat.le_trans h1 K.1, h2, h3.keep K, h4.keep K na, d, kd, h5, h6.keep K na, h7.keep K nd⟩
end SXs
theorem shr0 (n : Nat) (h : n ≤ 64) : Int32.ofNat n >>> ((0 : Int32) &&& 31) = Int32.ofNat n := by
  have a := c_ishr (Int32.ofNat n) 0 0 (by decide); apply Int32.toInt_inj.mp; rw [a]; simp
theorem shr1 (n : Nat) (h : n ≤ 64) : Int32.ofNat (2 * n) >>> ((1 : Int32) &&& 31) = Int32.ofNat n := by
  have a := c_ishr (Int32.ofNat (2 * n)) 1 1 (by decide); have b := on_i (i := 2 * n) (by omega); have c := on_i (i := n) (by omega); apply Int32.toInt_inj.mp; rw [a, b, c]; simp
theorem cpR (xs : List Int32) (sp nn : Nat) (h : sp + nn ≤ xs.length) : (List.range nn).map (fun i => (ivL xs).getD (sp + i) (.int (0 : Int32))) = ivL ((xs.drop sp).take nn) := by
  apply List.ext_getElem
  · rw [ivl]; simp; omega
  · intro k h1 h2
    simp at h1
    simp only [List.getElem_map, List.getElem_range, ivL]
    rw [List.getD_eq_getElem?_getD, List.getElem?_map, List.getElem?_eq_getElem (by omega)]
    simp
theorem cpL (xs ys : List Int32) (sp dp nn : Nat) (h : sp + nn ≤ xs.length) : (ivL ys).take dp ++ (List.range nn).map (fun i => (ivL xs).getD (sp + i) (.int (0 : Int32))) ++ (ivL ys).drop (dp + nn) = ivL (ys.take dp ++ (xs.drop sp).take nn ++ ys.drop (dp + nn)) := by
  rw [cpR _ _ _ h]; unfold ivL; simp
theorem i0 : (0 : Int32).toNatClampNeg = 0 := rfl
theorem copy_take (ys : List Int32) (n : Nat) (h : n ≤ ys.length) : (List.replicate n (0 : Int32)).take 0 ++ (ys.drop 0).take n ++ (List.replicate n (0 : Int32)).drop (0 + n) = ys.take n := by simp

theorem on_add (a b : Nat) : Int32.ofNat a + Int32.ofNat b = Int32.ofNat (a + b) := (Int32.ofNat_add a b).symm
theorem on_sub_le {m N : Nat} (h : m ≤ N) (hN : N < 2 ^ 20) : ¬ (0 : Int32) < Int32.ofNat m - Int32.ofNat N := by
  have a := on_i (i := m) (by omega); have b := on_i (i := N) (by omega)
  have c := c_isub (Int32.ofNat m) (Int32.ofNat N)
  have r1 := Int32.le_toInt (Int32.ofNat m - Int32.ofNat N); have r2 := Int32.toInt_lt (Int32.ofNat m - Int32.ofNat N)
  rw [Int32.lt_iff_toInt_lt, show (0 : Int32).toInt = 0 from rfl]; rw [a, b] at c
  generalize (Int32.ofNat m - Int32.ofNat N).toInt = A at *
  omega
theorem on_sub_ge {n o z : Nat} (h : o + n ≤ z) (hN : z < 2 ^ 20) : ¬ Int32.ofNat z - Int32.ofNat o < Int32.ofNat n := by
  have a := on_i (i := z) (by omega); have b := on_i (i := o) (by omega); have d := on_i (i := n) (by omega)
  have c := c_isub (Int32.ofNat z) (Int32.ofNat o)
  have r1 := Int32.le_toInt (Int32.ofNat z - Int32.ofNat o); have r2 := Int32.toInt_lt (Int32.ofNat z - Int32.ofNat o)
  rw [Int32.lt_iff_toInt_lt, d]; rw [a, b] at c
  generalize (Int32.ofNat z - Int32.ofNat o).toInt = A at *
  omega
theorem neg_msb (z : Int32) : z < 0 ↔ z.toBitVec.msb = true := by
  rw [Int32.lt_iff_toInt_lt, BitVec.msb_eq_toInt, decide_eq_true_iff]; rfl
theorem or_nn {x y : Int32} (hx : ¬ x < 0) (hy : ¬ y < 0) : ¬ (x ||| y) < 0 := by
  rw [neg_msb] at *
  rw [Int32.toBitVec_or, BitVec.msb_or]
  simp only [Bool.not_eq_true] at hx hy
  rw [hx, hy]; simp
theorem shl0 (n : Nat) (h : n < 2 ^ 20) : Int32.ofNat n <<< ((0 : Int32) &&& 31) = Int32.ofNat n := by
  have a := c_ishl (Int32.ofNat n) 0 0 (by decide)
  have b := on_i (i := n) (by omega)
  have r1 := Int32.le_toInt (Int32.ofNat n <<< ((0 : Int32) &&& 31)); have r2 := Int32.toInt_lt (Int32.ofNat n <<< ((0 : Int32) &&& 31))
  apply Int32.toInt_inj.mp
  rw [b]; rw [b] at a
  generalize (Int32.ofNat n <<< ((0 : Int32) &&& 31)).toInt = A at *
  omega
theorem lat_mem {xs : List Int32} : Lat xs ↔ ∀ x ∈ xs, ¬ (255 : Int32) < x := by
  constructor
  · intro h x hx
    obtain ⟨k, hk, rfl⟩ := List.getElem_of_mem hx
    have := h k hk; rwa [getD_lt hk] at this
  · intro h k hk
    rw [getD_lt hk]; exact h _ (List.getElem_mem hk)
theorem lat_app {xs ys : List Int32} : Lat (xs ++ ys) ↔ Lat xs ∧ Lat ys := by
  simp only [lat_mem, List.mem_append]
  exact ⟨fun h => ⟨fun x q => h x (Or.inl q), fun x q => h x (Or.inr q)⟩, fun h x q => q.elim (h.1 x) (h.2 x)⟩
/-- the bytes of a builder of N places that says xs -/
def bb0 (xs : List Int32) (N : Nat) : List Int32 := xs.map b8f ++ List.replicate (N - xs.length) 0
def bb1 (xs : List Int32) (N : Nat) : List Int32 := u8 xs ++ List.replicate (2 * (N - xs.length)) 0
theorem bb0_len {xs : List Int32} {N : Nat} (h : xs.length ≤ N) : (bb0 xs N).length = N := by unfold bb0; simp; omega
theorem bb1_len {xs : List Int32} {N : Nat} (h : xs.length ≤ N) : (bb1 xs N).length = 2 * N := by unfold bb1; rw [List.length_append, u8_len, List.length_replicate]; omega
theorem cp_app (F G : List Int32) (R f g : Nat) (hf : F.length = f) (hg : G.length = g) : (F ++ List.replicate R (0 : Int32)).take f ++ (G.drop 0).take g ++ (F ++ List.replicate R (0 : Int32)).drop (f + g) = F ++ G ++ List.replicate (R - g) 0 := by
  subst hf hg
  rw [List.take_left' rfl, List.drop_zero, List.take_length]; simp
theorem bb0_cp (xs ys : List Int32) (N : Nat) : (bb0 xs N).take xs.length ++ ((ys.map b8f).drop 0).take ys.length ++ (bb0 xs N).drop (xs.length + ys.length) = bb0 (xs ++ ys) N := by
  unfold bb0
  rw [cp_app _ _ _ _ _ (List.length_map ..) (List.length_map ..), List.map_append, List.length_append, Nat.sub_sub]
theorem bb1_cp (xs ys : List Int32) (N : Nat) : (bb1 xs N).take (2 * xs.length) ++ ((u8 ys).drop 0).take (2 * ys.length) ++ (bb1 xs N).drop (2 * xs.length + 2 * ys.length) = bb1 (xs ++ ys) N := by
  unfold bb1
  rw [cp_app _ _ _ _ _ (u8_len _) (u8_len _), u8_app, List.length_append, show 2 * (N - xs.length) - 2 * ys.length = 2 * (N - (xs.length + ys.length)) by omega]
theorem bb0_take (xs : List Int32) (N : Nat) : (bb0 xs N).take xs.length = xs.map b8f := by unfold bb0; rw [List.take_left' (List.length_map ..)]
theorem bb1_take (xs : List Int32) (N : Nat) : (bb1 xs N).take (2 * xs.length) = u8 xs := by unfold bb1; rw [List.take_left' (u8_len _)]
/-- a dst of a full front F, i chars of xs, and zeros -/
def mixI (F xs : List Int32) (i R : Nat) : List Int32 := F ++ u8 (xs.take i) ++ List.replicate (2 * (xs.length - i) + R) 0
theorem mixIL {F xs : List Int32} {i R : Nat} (h : i ≤ xs.length) : (mixI F xs i R).length = F.length + 2 * xs.length + R := by unfold mixI; rw [List.length_append, List.length_append, u8_len, List.length_take, List.length_replicate]; omega
theorem mixI0 (F xs : List Int32) (R : Nat) : mixI F xs 0 R = F ++ List.replicate (2 * xs.length + R) 0 := by unfold mixI; simp [u8_nil]
theorem mixIN (F xs : List Int32) (R : Nat) : mixI F xs xs.length R = F ++ u8 xs ++ List.replicate R 0 := by unfold mixI; simp
theorem mixIS {F xs : List Int32} {i R o : Nat} (hF : F.length = 2 * o) (h : i < xs.length) : ((mixI F xs i R).set (2 * (o + i)) (lo8 (xs.getD i 0))).set (2 * (o + i) + 1) (hi8 (xs.getD i 0)) = mixI F xs (i + 1) R := by
  have e : (F ++ u8 (xs.take i)).length = 2 * (o + i) := by rw [List.length_append, u8_len, List.length_take]; omega
  have t : xs.take (i + 1) = xs.take i ++ [xs.getD i 0] := by rw [getD_lt h]; simp
  unfold mixI
  have q := set2 (F ++ u8 (xs.take i)) (lo8 (xs.getD i 0)) (hi8 (xs.getD i 0)) (2 * (xs.length - (i + 1)) + R)
  rw [e, show 2 * (xs.length - (i + 1)) + R + 2 = 2 * (xs.length - i) + R by omega] at q
  rw [q, t, u8_app, List.append_assoc F]; rfl
theorem getD_map {xs tl : List Int32} {i : Nat} (h : i < xs.length) : (xs.map b8f ++ tl).getD i 0 = b8f (xs.getD i 0) := by
  rw [getD_lt h]; simp [List.getD_eq_getElem?_getD, List.getElem?_append, h]
section SBs
variable {p : Program} {l : Launch} {e : Env} {R : Room} {s s' : State} {m : MethodId} {args : Array Value} {below : List Frame} {meth : Method} {c : Code} {T T' : State} {locs : List Loc} {cells slots : Nat} {g g' : JFrame} {Z : State} {a0 : Array Value} {h : Heap}
variable {own : String} {index : Nat} {y z : MethodName} {bytes : ByteArray} {maxL : Nat} {ret : Option FieldType} {rm : Room} {W : Nat} {Qc : Option Value → Heap → List Loc → Prop} {argsL rest : List Value}
/-- a method that its class declares is found from there, if the class is no interface (by a 'selects' that ends in it) -/
theorem sameSelf {y' y2 : MethodName} {C : String} (w1 : (Jvm.Cond.instanceMethod y).before a0 Z = true) (w2 : (Jvm.Cond.selects C y' y2).before a0 Z = true) (hc : y2.cls = y.cls) (hy : y.cls ≠ "java/lang/invoke/MethodHandle" ∧ y.cls ≠ "java/lang/invoke/VarHandle") : (Jvm.Cond.sameMethod y.cls y.cls y.name y.desc).before a0 Z = true := by
  obtain ⟨mk, meth, hn, -, -, -⟩ := Cond.instanceMethod_spec w1
  obtain ⟨cc, r, mm, -, -, h3, -, k, hk, hi⟩ := Cond.selects_spec w2
  have hf := findClass_of_methodNamed hn
  have hf2 := findClass_of_methodNamed h3
  rw [hc, hf] at hf2
  rw [← Option.some.inj hf2] at hk
  simp [Cond.before, Cond.holds, Cond.value, hf, State.methodFound?_of_named hn hy, show Z.methodNamed? ⟨y.cls, y.name, y.desc⟩ = some mk from hn, hk, hi]
theorem declOf (w1 : (Jvm.Cond.instanceMethod y).before a0 Z = true) (w2 : (Jvm.Cond.code y bytes maxL ret).before a0 Z = true) : (Jvm.Cond.declares y).before a0 Z = true := by
  obtain ⟨mk, methM, hn, hm, hst, hab⟩ := Cond.instanceMethod_spec w1
  obtain ⟨m2, cM, q1, -, -, -, -, -, -, hsig⟩ := Cond.code_spec hn w2
  cases hm.symm.trans q1
  simp [Cond.before, Cond.holds, Cond.value, hn, hm, hst, hsig]
theorem nfOf {a : Array Value} {y' y2 : MethodName} {C : String} (w2 : (Jvm.Cond.selects C y' y2).before a s = true) (hc : y2.cls = y.cls) : NotFace s y := fun r0 h0 => by
  obtain ⟨cc, r, mm, -, -, h3, -, k, hk, hi⟩ := Cond.selects_spec w2
  have hf := findClass_of_methodNamed h0
  have hf2 := findClass_of_methodNamed h3
  rw [hc, hf] at hf2
  rw [← Option.some.inj hf2] at hk
  exact ⟨k, hk, hi⟩
theorem callSupt {C : String} (X : Stand p l e R s m args below meth c T locs cells slots) (hx : p.tables.exec = Jvm.exec) (hZ : Z.Warmed39 s.vm) (hn : y.name ≠ "<init>") (hown : s.vm.findClass own = some m.cls)
    (w1 : (Jvm.Cond.methodLink own index y).before a0 Z = true) (ws : (Jvm.Cond.sameMethod y.cls y.cls y.name y.desc).before a0 Z = true) (w2 : (Jvm.Cond.instanceMethod y).before a0 Z = true) (wp : (Jvm.Cond.superclass own y.cls).before a0 Z = true) (w3 : (Jvm.Cond.initialized y.cls).before a0 Z = true) (w4 : (Jvm.Cond.code y bytes maxL ret).before a0 Z = true)
    {a : Addr} (hC : Con FrameEnd l Z y bytes maxL ret rm (.ref a :: argsL).toArray h Qc) (eT : T.heap = h) (EA : Exa Z h a C) (hf : rm.frames + 1 ≤ R.frames) (hl : W + (maxL + 11) + rm.locals ≤ R.locals) (hc : cells + rm.cells ≤ R.cells) (hs : slots + rm.slots ≤ R.slots)
    (hg : g.method = m) (hsize : g.locals.size = c.maxLocals) (hlen : ∀ sig, parseMethodDescriptor y.desc = some sig → argsL.length = sig.parameters.length) (hstack : g.stack = argsL.reverse ++ .ref a :: rest) (hW : 2 * g.monitorRoom + (rest.map fun v => v.category).sum ≤ W) (hdg : decode c.code g.pc = .ok (.invokespecial index, 3)) :
    ∃ (v : Option Value) (T' : State) (L : List Loc), Stand p l e R s m args below meth c T' (locs ++ L) (cells + rm.cells) (slots + rm.slots) ∧ Qc v T'.heap L ∧ ∀ target, Steps p.tables e below (T'.setTop { g with pc := g.pc + 3, stack := v.toList ++ rest }) target → Steps p.tables e below (T.setTop g) target := by
  obtain ⟨v, _, ⟨T2, L2, k2, n2⟩, -, X2, ⟨Lc2, hQ2, l2, y2, z2⟩, st2⟩ := superBack X hx hZ hown w1 ws w2 wp hn (backOf (W := W) hC hZ w4 w3 hf hl) eT (Ins.self EA) hg hsize w4 hlen hstack hW hdg (fun _ _ => ⟨rfl, eT, hc, hs⟩)
  dsimp only [Pt.U, Pt.locs, Pt.cells, Pt.slots] at X2 l2 y2 z2 st2 hQ2
  subst l2 y2 z2
  exact ⟨v, T2, Lc2, X2, hQ2, fun _ k => st2.trans k⟩
theorem callVZt {C C' : String} {y' y2 : MethodName} (X : Stand p l e R s m args below meth c T locs cells slots) (hx : p.tables.exec = Jvm.exec) (hZ : Z.Warmed39 s.vm) (hown : s.vm.findClass own = some m.cls)
    (w1 : (Jvm.Cond.methodLink own index y).before a0 Z = true) (w2 : (Jvm.Cond.declares y).before a0 Z = true) (w3 : (Jvm.Cond.selects C y z).before a0 Z = true) (wn : (Jvm.Cond.selects C' y' y2).before a0 Z = true) (hcc : y2.cls = y.cls) (w4 : (Jvm.Cond.instanceMethod z).before a0 Z = true) (w5 : (Jvm.Cond.initialized z.cls).before a0 Z = true) (w6 : (Jvm.Cond.code z bytes maxL ret).before a0 Z = true)
    (hy : y.cls ≠ "java/lang/invoke/MethodHandle" ∧ y.cls ≠ "java/lang/invoke/VarHandle")
    {a : Addr} (hC : Con FrameEnd l Z z bytes maxL ret rm (.ref a :: argsL).toArray h Qc) (eT : T.heap = h) (EA : Exa Z h a C) (hf : rm.frames + 1 ≤ R.frames) (hl : W + (maxL + 11) + rm.locals ≤ R.locals) (hc : cells + rm.cells ≤ R.cells) (hs : slots + rm.slots ≤ R.slots)
    (hg : g.method = m) (hsize : g.locals.size = c.maxLocals) (hlen : ∀ sig, parseMethodDescriptor y.desc = some sig → argsL.length = sig.parameters.length) (hstack : g.stack = argsL.reverse ++ .ref a :: rest) (hW : 2 * g.monitorRoom + (rest.map fun v => v.category).sum ≤ W) (hdg : decode c.code g.pc = .ok (.invokevirtual index, 3)) :
    ∃ (v : Option Value) (T' : State) (L : List Loc), Stand p l e R s m args below meth c T' (locs ++ L) (cells + rm.cells) (slots + rm.slots) ∧ Qc v T'.heap L ∧ ∀ target, Steps p.tables e below (T'.setTop { g with pc := g.pc + 3, stack := v.toList ++ rest }) target → Steps p.tables e below (T.setTop g) target := by
  obtain ⟨cq, kq, qa, qb, qc⟩ := isOf hZ eT EA
  obtain ⟨v, _, ⟨T2, L2, k2, n2⟩, -, X2, ⟨Lc2, hQ2, l2, y2, z2⟩, st2⟩ := X.virtualBack hx hown (mvT hZ w1) (mvT hZ w2) (nfOf (a := #[]) (mvT hZ wn) hcc) (mvT hZ w3) (mvT hZ w4) hy (backOf (W := W) hC hZ w6 w5 hf hl) qa qc hg hsize (Steps.refl _) hlen hstack hW hdg (fun _ _ => ⟨rfl, eT, hc, hs⟩)
  dsimp only [Pt.U, Pt.locs, Pt.cells, Pt.slots] at X2 l2 y2 z2 st2 hQ2
  subst l2 y2 z2
  exact ⟨v, T2, Lc2, X2, hQ2, fun _ k => st2.trans k⟩
end SBs
/-- the StringBuilder at b says xs; its array d has N places -/
def SBx (Z : State) (h : Heap) (b d : Addr) (kd : ClassId) (xs : List Int32) (N : Nat) : Prop :=
  ∃ co, Exa Z h b "java/lang/StringBuilder" ∧ Fld Z h b "java/lang/AbstractStringBuilder" "value" "[B" (.ref d) ∧ Fld Z h b "java/lang/AbstractStringBuilder" "coder" "B" (.int co) ∧ Fld Z h b "java/lang/AbstractStringBuilder" "count" "I" (.int (Int32.ofNat xs.length)) ∧ Fld Z h b "java/lang/AbstractStringBuilder" "maybeLatin1" "Z" (.int (0 : Int32)) ∧
    ((co = 0 ∧ Lat xs ∧ Arv Z h d kd .byte (Int32.ofNat N) (ivL (bb0 xs N)) (.int (0 : Int32))) ∨ (co = 1 ∧ ¬ Lat xs ∧ Arv Z h d kd .byte (Int32.ofNat (2 * N)) (ivL (bb1 xs N)) (.int (0 : Int32))))
theorem SBx.exa {Z : State} {h : Heap} {b d : Addr} {kd : ClassId} {xs : List Int32} {N : Nat} (F : SBx Z h b d kd xs N) : Exa Z h b "java/lang/StringBuilder" := by obtain ⟨_, A, _⟩ := F; exact A
theorem SBx.alt {Z : State} {h : Heap} {b d : Addr} {kd : ClassId} {xs : List Int32} {N : Nat} (F : SBx Z h b d kd xs N) : d < h.size := by obtain ⟨_, _, _, _, _, _, ⟨_, _, V⟩ | ⟨_, _, V⟩⟩ := F <;> exact V.lt
theorem SBx.ext {Z : State} {h h' : Heap} {b d : Addr} {kd : ClassId} {xs : List Int32} {N : Nat} (F : SBx Z h b d kd xs N) (E : Ext h h') : SBx Z h' b d kd xs N := by
  obtain ⟨co, A, f1, f2, f3, f4, V⟩ := F
  exact ⟨co, A.ext E, f1.ext E, f2.ext E, f3.ext E, f4.ext E, V.elim (fun q => Or.inl ⟨q.1, q.2.1, q.2.2.ext E⟩) (fun q => Or.inr ⟨q.1, q.2.1, q.2.2.ext E⟩)⟩
theorem sxRaw {Z : State} {h : Heap} {a d : Addr} {kd : ClassId} {co : Int32} {xs : List Int32} (A : Exa Z h a "java/lang/String") (C : Fld Z h a "java/lang/String" "coder" "B" (.int co)) (F : Fld Z h a "java/lang/String" "value" "[B" (.ref d)) (B : BX Z h d kd co xs) : SX Z h a co xs h.size :=
  ⟨Nat.le_refl _, A.lt, A, C, d, kd, B.lt, F, B⟩
theorem bxLit {Z : State} {h : Heap} {d : Addr} {kd : ClassId} {xs : List Int32} {vs : List Value} {z : Int32} (V : Arv Z h d kd .byte z vs (.int (0 : Int32))) (hz : z = Int32.ofNat xs.length) (hm : xs.map b8f = xs) (hv : vs = ivL xs) (hl : ∀ x ∈ xs, ¬ (255 : Int32) < x) : BX Z h d kd 0 xs := by
  subst hz hv
  exact Or.inl ⟨rfl, lat_mem.mpr hl, by rw [hm]; exact V⟩
def ChL (xs : List Int32) : Prop := ∀ x ∈ xs, ChI x
theorem chA {xs ys : List Int32} (a : ChL xs) (b : ChL ys) : ChL (xs ++ ys) := fun x h => (List.mem_append.mp h).elim (a x) (b x)
theorem ch0 : ChL [] := fun _ h => by cases h
theorem chS {x : Int32} {xs : List Int32} (a : ChI x) (b : ChL xs) : ChL (x :: xs) := fun y h => by
  rcases List.mem_cons.mp h with rfl | h
  · exact a
  · exact b y h
theorem chG {xs : List Int32} (a : ChL xs) : ∀ k, k < xs.length → ChI (xs.getD k 0) := fun k h => by rw [getD_lt h]; exact a _ (List.getElem_mem h)
abbrev tPre : List Int32 := [84, 104, 105, 115, 32, 112, 97, 116, 104, 32, 97, 110, 115, 119, 101, 114, 115, 32]
abbrev tPost : List Int32 := [32, 111, 110, 108, 121, 46]
abbrev tCode : List Int32 := [109, 101, 116, 104, 111, 100, 95, 110, 111, 116, 95, 97, 108, 108, 111, 119, 101, 100]
theorem chPre : ChL tPre := by unfold ChL ChI; decide
theorem chPost : ChL tPost := by unfold ChL ChI; decide
theorem SBx.lt {Z : State} {h : Heap} {b d : Addr} {kd : ClassId} {xs : List Int32} {N : Nat} (F : SBx Z h b d kd xs N) : b < h.size := F.exa.lt
theorem lat1 {x : Int32} (h : ¬ (255 : Int32) < x) : Lat [x] := lat_mem.mpr fun y q => by rw [List.mem_singleton.mp q]; exact h
theorem nlat1 {x : Int32} (h : (255 : Int32) < x) : ¬ Lat [x] := fun q => lat_mem.mp q x (List.mem_singleton.mpr rfl) h
theorem latPre : Lat tPre := lat_mem.mpr (by decide)
theorem latPost : Lat tPost := lat_mem.mpr (by decide)
def fill (L : List Int32) (i : Nat) : List Int32 := L.take i ++ List.replicate (L.length - i) 0
theorem fillL {L : List Int32} {i : Nat} (h : i ≤ L.length) : (fill L i).length = L.length := by unfold fill; simp; omega
theorem fill0 (L : List Int32) : fill L 0 = List.replicate L.length 0 := by unfold fill; simp
theorem fillN (L : List Int32) : fill L L.length = L := by unfold fill; simp
theorem fillS {L : List Int32} {i : Nat} (h : i < L.length) : (fill L i).set i (L.getD i 0) = fill L (i + 1) := by
  have t : L.take (i + 1) = L.take i ++ [L.getD i 0] := by rw [getD_lt h]; simp
  have e : (L.take i).length = i := by rw [List.length_take]; omega
  unfold fill
  rw [t, List.set_append_right _ _ (by omega), e, Nat.sub_self, show L.length - i = (L.length - (i + 1)) + 1 by omega, List.replicate_succ]
  simp
theorem fillLt {L : List Int32} {i : Nat} (h : i < L.length) : i < (ivL (fill L i)).length := by rw [ivl, fillL (by omega)]; exact h
theorem fillV {Z : State} {h : Heap} {a : Addr} {k : ClassId} {z v : Int32} {L : List Int32} {i : Nat} (V : Arv Z h a k .char z ((ivL (fill L i)).set i (.int (nar .char v))) (.int (0 : Int32))) (hv : nar .char v = L.getD i 0) (hi : i < L.length) : Arv Z h a k .char z (ivL (fill L (i + 1))) (.int (0 : Int32)) := by
  rw [hv, ivs, fillS hi] at V; exact V
theorem fillI {Z : State} {h : Heap} {a : Addr} {k : ClassId} {z : Int32} {L : List Int32} {vs : List Value} (V : Arv Z h a k .char z vs (.int (0 : Int32))) (hv : vs = ivL (List.replicate L.length 0)) : Arv Z h a k .char z (ivL (fill L 0)) (.int (0 : Int32)) := by rw [fill0, ← hv]; exact V
theorem fillE {Z : State} {h : Heap} {a : Addr} {k : ClassId} {z : Int32} {L : List Int32} {n : Nat} (V : Arv Z h a k .char z (ivL (fill L n)) (.int (0 : Int32))) (hn : L.length = n) (hz : z = Int32.ofNat n) : Arv Z h a k .char (Int32.ofNat L.length) (ivL L) (.int (0 : Int32)) := by subst hn hz; rw [fillN] at V; exact V
abbrev tE (ys : List Int32) : List Int32 := (tPre ++ ys) ++ tPost

theorem rmEqG (l : Launch) (Z : State) (a0 : Array Value) (hw : HW a0 Z) (n0 : Nat) (h0 : Heap) (O : Old Z n0 h0) (d1 d2 : Addr) (k1 k2 : ClassId) (xs : List Int32) (hL : xs.length ≤ 256) (V1 : Arv Z h0 d1 k1 .byte (Int32.ofNat xs.length) (ivL xs) (.int (0 : Int32))) (V2 : Arv Z h0 d2 k2 .byte (Int32.ofNat xs.length) (ivL xs) (.int (0 : Int32))) :
    ConW FrameEnd l Z [] (⟨"java/lang/StringLatin1", "equals", "([B[B)Z"⟩ : MethodName) jdk_43_method_13_code 3 (some .boolean) ({ frames := 0, cells := 0, slots := 0, locals := 0 } : Room) #[(.ref d1), (.ref d2)] h0 (Pure h0 (some (.int (1 : Int32)))) := by
  refine conOf (plainFor_of_name pn_java_lang_StringLatin1) ?_
  intro p e s m below mth cc s₁ X0 hx hby hml hown hnm hret hlk hZ e0
  have N0 := Fr.nil n0
  refine Fin.came (castTop (t := _) (by first | (simp [entryFrame, mkF, argsToLocals, Value.category]; done) | rfl) (Steps.refl _) : Steps p.tables e below (s₁.setTop (entryFrame m #[(.ref d1), (.ref d2)] 3)) (s₁.setTop (mkF m 0 #[vr d1, vr d2, .unset] []))) ?_
  refine .go (fun _ k => XS.aloadN X0.here hx rfl (hb hby d45_0) rfl rfl k) ?_
  obtain ⟨cz11, B11, q11, S11, M11, H11, G11⟩ := id V1
  refine Fin.go (fun _ k => X0.arraylength hx (by rw [e0]; exact B11.1) (State.isArrayOf_alike hZ.alike B11.2.1) (g := (mkF m 1 #[vr d1, vr d2, .unset] [(.ref d1)])) rfl rfl (hb hby d45_1) _ k) ?_
  rw [len_of S11 M11]
  show Fin _ _ _ _ _ _ _ _ s₁ (mkF m 2 #[vr d1, vr d2, .unset] [(.int (Int32.ofNat xs.length))])
  refine .go (fun _ k => XS.aloadN X0.here hx rfl (hb hby d45_2) rfl rfl k) ?_
  obtain ⟨cz12, B12, q12, S12, M12, H12, G12⟩ := id V2
  refine Fin.go (fun _ k => X0.arraylength hx (by rw [e0]; exact B12.1) (State.isArrayOf_alike hZ.alike B12.2.1) (g := (mkF m 3 #[vr d1, vr d2, .unset] [(.ref d2), (.int (Int32.ofNat xs.length))])) rfl rfl (hb hby d45_3) _ k) ?_
  rw [len_of S12 M12]
  show Fin _ _ _ _ _ _ _ _ s₁ (mkF m 4 #[vr d1, vr d2, .unset] [(.int (Int32.ofNat xs.length)), (.int (Int32.ofNat xs.length))])
  refine .go (fun _ k => XS.icmpNo X0.here hx rfl (hb hby d45_4) rfl (XT.ii_ne_f rfl) k) ?_
  show Fin _ _ _ _ _ _ _ _ s₁ (mkF m 7 #[vr d1, vr d2, .unset] [])
  refine .go (fun _ k => XS.iconst X0.here hx rfl (hb hby d45_7) k) ?_
  refine .go (fun _ k => XS.istoreN X0.here hx rfl (hb hby d45_8) rfl (l' := #[vr d1, vr d2, vi (0 : Int32)]) rfl k) ?_
  show Fin _ _ _ _ _ _ _ _ s₁ (mkF m 9 #[vr d1, vr d2, vi (0 : Int32)] [])
  have loop : ∀ (r i : Nat) (hi : i + r = xs.length) (T : State) (X : Stand p l e ({ frames := 0, cells := 0, slots := 0, locals := 0 } : Room) s m #[(.ref d1), (.ref d2)] below mth cc T [] 0 0) (eT : T.heap = h0), Fin FrameEnd p e below s (Pure h0 (some (.int (1 : Int32)))) 0 0 T (mkF m 9 #[vr d1, vr d2, vi (Int32.ofNat i)] []) := by
    intro r
    induction r with
    | zero =>
      intro i hi T X eT
      refine .go (fun _ k => XS.iloadN X.here hx rfl (hb hby d45_9) rfl k) ?_
      refine .go (fun _ k => XS.aloadN X.here hx rfl (hb hby d45_10) rfl rfl k) ?_
      obtain ⟨cz13, B13, q13, S13, M13, H13, G13⟩ := id V1
      refine Fin.go (fun _ k => X.arraylength hx (by rw [eT]; exact B13.1) (State.isArrayOf_alike hZ.alike B13.2.1) (g := (mkF m 11 #[vr d1, vr d2, vi (Int32.ofNat i)] [(.ref d1), (.int (Int32.ofNat i))])) rfl rfl (hb hby d45_11) _ k) ?_
      rw [len_of S13 M13]
      show Fin _ _ _ _ _ _ _ _ T (mkF m 12 #[vr d1, vr d2, vi (Int32.ofNat i)] [(.int (Int32.ofNat xs.length)), (.int (Int32.ofNat i))])
      refine .go (fun _ k => XS.icmpYes X.here hx rfl (pc0 := 12) (pc' := 32) rfl (hb hby d45_12) rfl (XT.ii_ge_t (on_nl (by omega) (by omega))) (by decide) (by decide) k) ?_
      show Fin _ _ _ _ _ _ _ _ T (mkF m 32 #[vr d1, vr d2, vi (Int32.ofNat i)] [])
      refine .go (fun _ k => XS.iconst X.here hx rfl (hb hby d45_32) k) ?_
      exact Fin.leaveN X eT hlk (v := some (.int (nar .boolean (1 : Int32)))) (nvS hret) (by decide) (by decide) ⟨rfl, rfl, rfl⟩ (fun fs hr => retN X hx (t := .boolean) hret (by simp) (hb hby d45_33) hr)
    | succ r ih =>
      intro i hi T X eT
      refine .go (fun _ k => XS.iloadN X.here hx rfl (hb hby d45_9) rfl k) ?_
      refine .go (fun _ k => XS.aloadN X.here hx rfl (hb hby d45_10) rfl rfl k) ?_
      obtain ⟨cz14, B14, q14, S14, M14, H14, G14⟩ := id V1
      refine Fin.go (fun _ k => X.arraylength hx (by rw [eT]; exact B14.1) (State.isArrayOf_alike hZ.alike B14.2.1) (g := (mkF m 11 #[vr d1, vr d2, vi (Int32.ofNat i)] [(.ref d1), (.int (Int32.ofNat i))])) rfl rfl (hb hby d45_11) _ k) ?_
      rw [len_of S14 M14]
      show Fin _ _ _ _ _ _ _ _ T (mkF m 12 #[vr d1, vr d2, vi (Int32.ofNat i)] [(.int (Int32.ofNat xs.length)), (.int (Int32.ofNat i))])
      refine .go (fun _ k => XS.icmpNo X.here hx rfl (hb hby d45_12) rfl (XT.ii_ge_f (on_l (by omega) (by omega))) k) ?_
      show Fin _ _ _ _ _ _ _ _ T (mkF m 15 #[vr d1, vr d2, vi (Int32.ofNat i)] [])
      refine .go (fun _ k => XS.aloadN X.here hx rfl (hb hby d45_15) rfl rfl k) ?_
      refine .go (fun _ k => XS.iloadN X.here hx rfl (hb hby d45_16) rfl k) ?_
      obtain ⟨cz15, B15, q15, S15, M15, H15, G15⟩ := id V1
      have i15 := inb_of S15 ⟨(on_g (i := i) (by omega)), (on_l (by omega) (by omega))⟩
      refine Fin.go (fun _ k => X.baloadBytes hx (j := (Int32.ofNat i)) (v := (.int (xs.getD i 0))) (by rw [eT]; exact B15.1) (State.isArrayOf_alike hZ.alike B15.2.1) B15.2.2 i15 (Has.at H15 i15 (ivg (on_n (i := i) (by omega)))) (g := (mkF m 17 #[vr d1, vr d2, vi (Int32.ofNat i)] [(.int (Int32.ofNat i)), (.ref d1)])) rfl rfl (hb hby d45_17) _ k) ?_
      show Fin _ _ _ _ _ _ _ _ T (mkF m 18 #[vr d1, vr d2, vi (Int32.ofNat i)] [(.int (xs.getD i 0))])
      refine .go (fun _ k => XS.aloadN X.here hx rfl (hb hby d45_18) rfl rfl k) ?_
      refine .go (fun _ k => XS.iloadN X.here hx rfl (hb hby d45_19) rfl k) ?_
      obtain ⟨cz16, B16, q16, S16, M16, H16, G16⟩ := id V2
      have i16 := inb_of S16 ⟨(on_g (i := i) (by omega)), (on_l (by omega) (by omega))⟩
      refine Fin.go (fun _ k => X.baloadBytes hx (j := (Int32.ofNat i)) (v := (.int (xs.getD i 0))) (by rw [eT]; exact B16.1) (State.isArrayOf_alike hZ.alike B16.2.1) B16.2.2 i16 (Has.at H16 i16 (ivg (on_n (i := i) (by omega)))) (g := (mkF m 20 #[vr d1, vr d2, vi (Int32.ofNat i)] [(.int (Int32.ofNat i)), (.ref d2), (.int (xs.getD i 0))])) rfl rfl (hb hby d45_20) _ k) ?_
      show Fin _ _ _ _ _ _ _ _ T (mkF m 21 #[vr d1, vr d2, vi (Int32.ofNat i)] [(.int (xs.getD i 0)), (.int (xs.getD i 0))])
      refine .go (fun _ k => XS.icmpYes X.here hx rfl (pc0 := 21) (pc' := 26) rfl (hb hby d45_21) rfl (XT.ii_eq_t rfl) (by decide) (by decide) k) ?_
      show Fin _ _ _ _ _ _ _ _ T (mkF m 26 #[vr d1, vr d2, vi (Int32.ofNat i)] [])
      refine .go (fun _ k => XS.iinc X.here hx rfl (hb hby d45_26) rfl (l' := #[vr d1, vr d2, vi ((Int32.ofNat i) + (1 : Int32))]) rfl k) ?_
      refine .go (fun _ k => XS.goto X.here hx rfl (pc0 := 29) (pc' := 9) rfl (hb hby d45_29) (by decide) (by decide) k) ?_
      show Fin _ _ _ _ _ _ _ _ T (mkF m 9 #[vr d1, vr d2, vi ((Int32.ofNat i) + (1 : Int32))] [])
      rw [on_s]
      exact ih (i + 1) (by omega) T X eT
  exact loop xs.length 0 (by omega) s₁ X0 e0
theorem hpS {xs : List Int32} {i : Nat} (hp : ∀ k, k < i → ¬ (255 : Int32) < xs.getD k 0) (c : ¬ (255 : Int32) < xs.getD i 0) : ∀ k, k < i + 1 → ¬ (255 : Int32) < xs.getD k 0 := fun k hk => by
  by_cases q : k = i
  · subst q; exact c
  · exact hp k (by omega)
theorem rmCmpG (l : Launch) (Z : State) (a0 : Array Value) (hw : HW a0 Z) (n0 : Nat) (h0 : Heap) (O : Old Z n0 h0) (b d : Addr) (kb kd : ClassId) (xs : List Int32) (hL : xs.length ≤ 64) (VB : Arv Z h0 b kb .char (Int32.ofNat xs.length) (ivL xs) (.int (0 : Int32))) (VD : Arv Z h0 d kd .byte (Int32.ofNat xs.length) (ivL (List.replicate xs.length 0)) (.int (0 : Int32))) (nd : n0 ≤ d) (nbd : b ≠ d) :
    ConW FrameEnd l Z [] (⟨"java/lang/StringUTF16", "compress", "([CI[BII)I"⟩ : MethodName) jdk_52_method_21_code 7 (some .int) ({ frames := 0, cells := 0, slots := 0, locals := 0 } : Room) #[(.ref b), (.int (0 : Int32)), (.ref d), (.int (0 : Int32)), (.int (Int32.ofNat xs.length))] h0 (fun v h L => ∃ c, v = some (.int (Int32.ofNat c)) ∧ Fr n0 L ∧ Keep h0 h [d] ∧ ((c = xs.length ∧ (∀ k, k < xs.length → ¬ (255 : Int32) < xs.getD k 0) ∧ Arv Z h d kd .byte (Int32.ofNat xs.length) (ivL (xs.map b8f)) (.int (0 : Int32))) ∨ (c < xs.length ∧ (255 : Int32) < xs.getD c 0))) := by
  refine conOf (plainFor_of_name pn_java_lang_StringUTF16) ?_
  intro p e s m below mth cc s₁ X0 hx hby hml hown hnm hret hlk hZ e0
  have N0 := Fr.nil n0
  have K0 := Keep.refl h0 ([d] : List Addr)
  refine Fin.came (castTop (t := _) (by first | (simp [entryFrame, mkF, argsToLocals, Value.category]; done) | rfl) (Steps.refl _) : Steps p.tables e below (s₁.setTop (entryFrame m #[(.ref b), (.int (0 : Int32)), (.ref d), (.int (0 : Int32)), (.int (Int32.ofNat xs.length))] 7)) (s₁.setTop (mkF m 0 #[vr b, vi (0 : Int32), vr d, vi (0 : Int32), vi (Int32.ofNat xs.length), .unset, .unset] []))) ?_
  refine .go (fun _ k => XS.iconst X0.here hx rfl (hb hby d9_0) k) ?_
  refine .go (fun _ k => XS.istore X0.here hx rfl (hb hby d9_1) rfl (l' := #[vr b, vi (0 : Int32), vr d, vi (0 : Int32), vi (Int32.ofNat xs.length), vi (0 : Int32), .unset]) rfl k) ?_
  show Fin _ _ _ _ _ _ _ _ s₁ (mkF m 3 #[vr b, vi (0 : Int32), vr d, vi (0 : Int32), vi (Int32.ofNat xs.length), vi (0 : Int32), .unset] [])
  have loop : ∀ (r i : Nat) (hi : i + r = xs.length) (T : State) (L : List Loc) (X : Stand p l e ({ frames := 0, cells := 0, slots := 0, locals := 0 } : Room) s m #[(.ref b), (.int (0 : Int32)), (.ref d), (.int (0 : Int32)), (.int (Int32.ofNat xs.length))] below mth cc T L 0 0) (h : Heap) (eT : T.heap = h) (N1 : Fr n0 L) (O1 : Old Z n0 h) (K1 : Keep h0 h [d]) (V1 : Arv Z h d kd .byte (Int32.ofNat xs.length) (ivL (mixB xs i)) (.int (0 : Int32))) (hp : ∀ k, k < i → ¬ (255 : Int32) < xs.getD k 0) (u6 : Slot) (h6 : u6 = .unset ∨ ∃ y, u6 = vi y), Fin FrameEnd p e below s (fun v h L => ∃ c, v = some (.int (Int32.ofNat c)) ∧ Fr n0 L ∧ Keep h0 h [d] ∧ ((c = xs.length ∧ (∀ k, k < xs.length → ¬ (255 : Int32) < xs.getD k 0) ∧ Arv Z h d kd .byte (Int32.ofNat xs.length) (ivL (xs.map b8f)) (.int (0 : Int32))) ∨ (c < xs.length ∧ (255 : Int32) < xs.getD c 0))) 0 0 T (mkF m 3 #[vr b, vi (Int32.ofNat i), vr d, vi (Int32.ofNat i), vi (Int32.ofNat xs.length), vi (Int32.ofNat i), u6] []) := by
    intro r
    induction r with
    | zero =>
      intro i hi T L X h eT N1 O1 K1 V1 hp u6 h6
      refine .go (fun _ k => XS.iload X.here hx rfl (hb hby d9_3) rfl k) ?_
      refine .go (fun _ k => XS.iload X.here hx rfl (hb hby d9_5) rfl k) ?_
      refine .go (fun _ k => XS.icmpYes X.here hx rfl (pc0 := 7) (pc' := 44) rfl (hb hby d9_7) rfl (XT.ii_ge_t (on_nl (by omega) (by omega))) (by decide) (by decide) k) ?_
      show Fin _ _ _ _ _ _ _ _ T (mkF m 44 #[vr b, vi (Int32.ofNat i), vr d, vi (Int32.ofNat i), vi (Int32.ofNat xs.length), vi (Int32.ofNat i), u6] [])
      refine .go (fun _ k => XS.iload X.here hx rfl (hb hby d9_44) rfl k) ?_
      exact Fin.leaveN X eT hlk (v := some (.int (Int32.ofNat xs.length))) (nvS hret) (by decide) (by decide) ⟨xs.length, rfl, N1, K1, Or.inl ⟨rfl, (by obtain rfl : i = xs.length := (by omega); exact hp), (by obtain rfl : i = xs.length := (by omega); rw [← mixN]; exact V1)⟩⟩ (fun fs hr => retI X hx hret (hb hby d9_46) hr)
    | succ r ih =>
      intro i hi T L X h eT N1 O1 K1 V1 hp u6 h6
      refine .go (fun _ k => XS.iload X.here hx rfl (hb hby d9_3) rfl k) ?_
      refine .go (fun _ k => XS.iload X.here hx rfl (hb hby d9_5) rfl k) ?_
      refine .go (fun _ k => XS.icmpNo X.here hx rfl (hb hby d9_7) rfl (XT.ii_ge_f (on_l (by omega) (by omega))) k) ?_
      show Fin _ _ _ _ _ _ _ _ T (mkF m 10 #[vr b, vi (Int32.ofNat i), vr d, vi (Int32.ofNat i), vi (Int32.ofNat xs.length), vi (Int32.ofNat i), u6] [])
      refine .go (fun _ k => XS.aloadN X.here hx rfl (hb hby d9_10) rfl rfl k) ?_
      refine .go (fun _ k => XS.iloadN X.here hx rfl (hb hby d9_11) rfl k) ?_
      obtain ⟨cz11, B11, q11, S11, M11, H11, G11⟩ := id (VB.keep K1 (ninS nbd nin0))
      have i11 := inb_of S11 ⟨(on_g (i := i) (by omega)), (on_l (by omega) (by omega))⟩
      refine Fin.go (fun _ k => X.caload hx (j := (Int32.ofNat i)) (v := (.int (xs.getD i 0))) (by rw [eT]; exact B11.1) (State.isArrayOf_alike hZ.alike B11.2.1) B11.2.2 i11 (Has.at H11 i11 (ivg (on_n (i := i) (by omega)))) (g := (mkF m 12 #[vr b, vi (Int32.ofNat i), vr d, vi (Int32.ofNat i), vi (Int32.ofNat xs.length), vi (Int32.ofNat i), u6] [(.int (Int32.ofNat i)), (.ref b)])) rfl rfl (hb hby d9_12) _ k) ?_
      show Fin _ _ _ _ _ _ _ _ T (mkF m 13 #[vr b, vi (Int32.ofNat i), vr d, vi (Int32.ofNat i), vi (Int32.ofNat xs.length), vi (Int32.ofNat i), u6] [(.int (xs.getD i 0))])
      have sp12 : ∀ t, Steps p.tables e below (T.setTop (mkF m 15 #[vr b, vi (Int32.ofNat i), vr d, vi (Int32.ofNat i), vi (Int32.ofNat xs.length), vi (Int32.ofNat i), vi (xs.getD i 0)] [])) t → Steps p.tables e below (T.setTop (mkF m 13 #[vr b, vi (Int32.ofNat i), vr d, vi (Int32.ofNat i), vi (Int32.ofNat xs.length), vi (Int32.ofNat i), u6] [(.int (xs.getD i 0))])) t := by rcases h6 with rfl | ⟨y, rfl⟩ <;> exact fun _ k => XS.istore X.here hx rfl (hb hby d9_13) rfl (l' := #[vr b, vi (Int32.ofNat i), vr d, vi (Int32.ofNat i), vi (Int32.ofNat xs.length), vi (Int32.ofNat i), vi (xs.getD i 0)]) rfl k
      refine Fin.go sp12 ?_
      show Fin _ _ _ _ _ _ _ _ T (mkF m 15 #[vr b, vi (Int32.ofNat i), vr d, vi (Int32.ofNat i), vi (Int32.ofNat xs.length), vi (Int32.ofNat i), vi (xs.getD i 0)] [])
      refine .go (fun _ k => XS.iload X.here hx rfl (hb hby d9_15) rfl k) ?_
      refine .go (fun _ k => XS.sipush X.here hx rfl (hb hby d9_17) k) ?_
      by_cases c20 : (255 : Int32) < (xs.getD i 0)
      · refine .go (fun _ k => XS.icmpNo X.here hx rfl (hb hby d9_20) rfl (XT.ii_le_f c20) k) ?_
        show Fin _ _ _ _ _ _ _ _ T (mkF m 23 #[vr b, vi (Int32.ofNat i), vr d, vi (Int32.ofNat i), vi (Int32.ofNat xs.length), vi (Int32.ofNat i), vi (xs.getD i 0)] [])
        refine .go (fun _ k => XS.iload X.here hx rfl (hb hby d9_23) rfl k) ?_
        exact Fin.leaveN X eT hlk (v := some (.int (Int32.ofNat i))) (nvS hret) (by decide) (by decide) ⟨i, rfl, N1, K1, Or.inr ⟨by omega, c20⟩⟩ (fun fs hr => retI X hx hret (hb hby d9_25) hr)
      · refine .go (fun _ k => XS.icmpYes X.here hx rfl (pc0 := 20) (pc' := 26) rfl (hb hby d9_20) rfl (XT.ii_le_t c20) (by decide) (by decide) k) ?_
        show Fin _ _ _ _ _ _ _ _ T (mkF m 26 #[vr b, vi (Int32.ofNat i), vr d, vi (Int32.ofNat i), vi (Int32.ofNat xs.length), vi (Int32.ofNat i), vi (xs.getD i 0)] [])
        refine .go (fun _ k => XS.aloadN X.here hx rfl (hb hby d9_26) rfl rfl k) ?_
        refine .go (fun _ k => XS.iloadN X.here hx rfl (hb hby d9_27) rfl k) ?_
        refine .go (fun _ k => XS.iload X.here hx rfl (hb hby d9_28) rfl k) ?_
        refine .go (fun _ k => XT.i2b X.here hx rfl (hb hby d9_30) rfl k) ?_
        show Fin _ _ _ _ _ _ _ _ T (mkF m 31 #[vr b, vi (Int32.ofNat i), vr d, vi (Int32.ofNat i), vi (Int32.ofNat xs.length), vi (Int32.ofNat i), vi (xs.getD i 0)] [(.int ((Int32.toInt8 (xs.getD i 0)).toInt32)), (.int (Int32.ofNat i)), (.ref d)])
        obtain ⟨cz13, B13, q13, S13, M13, H13, G13⟩ := id V1
        obtain ⟨T13, h13, X13, e13, W13, st13⟩ := stB X hx hZ eT B13 (j := (Int32.ofNat i)) (inb_of S13 ⟨(on_g (i := i) (by omega)), (on_l (by omega) (by omega))⟩) (g := (mkF m 31 #[vr b, vi (Int32.ofNat i), vr d, vi (Int32.ofNat i), vi (Int32.ofNat xs.length), vi (Int32.ofNat i), vi (xs.getD i 0)] [(.int ((Int32.toInt8 (xs.getD i 0)).toInt32)), (.int (Int32.ofNat i)), (.ref d)])) rfl rfl (hb hby d9_31)
        refine Fin.go st13 ?_
        have V13 : Arv Z h13 d kd .byte (Int32.ofNat xs.length) (ivL ((mixB xs i).set i ((Int32.toInt8 (xs.getD i 0)).toInt32))) (.int (0 : Int32)) := by have q : Arv Z h13 d kd .byte (Int32.ofNat xs.length) ((ivL (mixB xs i)).set i (.int (nar .byte ((Int32.toInt8 (xs.getD i 0)).toInt32)))) (.int (0 : Int32)) := Arv.set B13 q13 S13 M13 H13 G13 (fits_nar_byte _) W13 i (on_n (i := i) (by omega)) (by rw [ivl]; rw [mixL _ _ (by omega)]; omega); rw [nar_b8, ivs] at q; exact q
        have N13 := Fr.snoc X13 N1 nd
        have O13 := O1.wr W13 nd
        have K13 := K1.wr W13 (Or.inl (List.mem_of_getElem? (i := 0) rfl))
        show Fin _ _ _ _ _ _ _ _ T13 (mkF m 32 #[vr b, vi (Int32.ofNat i), vr d, vi (Int32.ofNat i), vi (Int32.ofNat xs.length), vi (Int32.ofNat i), vi (xs.getD i 0)] [])
        refine .go (fun _ k => XS.iinc X13.here hx rfl (hb hby d9_32) rfl (l' := #[vr b, vi ((Int32.ofNat i) + (1 : Int32)), vr d, vi (Int32.ofNat i), vi (Int32.ofNat xs.length), vi (Int32.ofNat i), vi (xs.getD i 0)]) rfl k) ?_
        refine .go (fun _ k => XS.iinc X13.here hx rfl (hb hby d9_35) rfl (l' := #[vr b, vi ((Int32.ofNat i) + (1 : Int32)), vr d, vi ((Int32.ofNat i) + (1 : Int32)), vi (Int32.ofNat xs.length), vi (Int32.ofNat i), vi (xs.getD i 0)]) rfl k) ?_
        refine .go (fun _ k => XS.iinc X13.here hx rfl (hb hby d9_38) rfl (l' := #[vr b, vi ((Int32.ofNat i) + (1 : Int32)), vr d, vi ((Int32.ofNat i) + (1 : Int32)), vi (Int32.ofNat xs.length), vi ((Int32.ofNat i) + (1 : Int32)), vi (xs.getD i 0)]) rfl k) ?_
        refine .go (fun _ k => XS.goto X13.here hx rfl (pc0 := 41) (pc' := 3) rfl (hb hby d9_41) (by decide) (by decide) k) ?_
        show Fin _ _ _ _ _ _ _ _ T13 (mkF m 3 #[vr b, vi ((Int32.ofNat i) + (1 : Int32)), vr d, vi ((Int32.ofNat i) + (1 : Int32)), vi (Int32.ofNat xs.length), vi ((Int32.ofNat i) + (1 : Int32)), vi (xs.getD i 0)] [])
        rw [on_s]
        exact ih (i + 1) (by omega) T13 _ X13 _ e13 N13 O13 K13 (by rw [← mixS (by omega)]; exact V13) (hpS hp c20) (vi (xs.getD i 0)) (Or.inr ⟨_, rfl⟩)
  exact loop xs.length 0 (by omega) s₁ _ X0 _ e0 N0 O K0 (by rw [mix0]; exact VD) (fun k hk => absurd hk (Nat.not_lt_zero k)) _ (Or.inl rfl)
theorem rmPutG (l : Launch) (Z : State) (a0 : Array Value) (hw : HW a0 Z) (n0 : Nat) (h0 : Heap) (O : Old Z n0 h0) (d : Addr) (kd : ClassId) (x : Int32) (ys : List Int32) (i : Nat) (N : Nat) (hN : ys.length = N) (hi : 2 * i + 1 < N) (hL : N ≤ 256) (VD : Arv Z h0 d kd .byte (Int32.ofNat N) (ivL ys) (.int (0 : Int32))) (nd : n0 ≤ d) (S_as : SAs Z) (S_hb : SHb Z) (S_lb : SLb Z) :
    ConW FrameEnd l Z [] (⟨"java/lang/StringUTF16", "putChar", "([BII)V"⟩ : MethodName) jdk_52_method_4_code 3 none ({ frames := 0, cells := 0, slots := 0, locals := 0 } : Room) #[(.ref d), (.int (Int32.ofNat i)), (.int x)] h0 (fun v h L => v = none ∧ Fr n0 L ∧ Keep h0 h [d] ∧ Arv Z h d kd .byte (Int32.ofNat N) (ivL ((ys.set (2 * i) (lo8 x)).set (2 * i + 1) (hi8 x))) (.int (0 : Int32))) := by
  refine conOf (plainFor_of_name pn_java_lang_StringUTF16) ?_
  intro p e s m below mth cc s₁ X0 hx hby hml hown hnm hret hlk hZ e0
  have N0 := Fr.nil n0
  have K0 := Keep.refl h0 ([d] : List Addr)
  refine Fin.came (castTop (t := _) (by first | (simp [entryFrame, mkF, argsToLocals, Value.category]; done) | rfl) (Steps.refl _) : Steps p.tables e below (s₁.setTop (entryFrame m #[(.ref d), (.int (Int32.ofNat i)), (.int x)] 3)) (s₁.setTop (mkF m 0 #[vr d, vi (Int32.ofNat i), vi x] []))) ?_
  obtain ⟨T11, X11, e11, st11⟩ := getS2 X0 hx hZ hown (host := "") (Or.inl (hw _ w_259)) Via.refl e0 (S_as.ext O.2) (g := (mkF m 0 #[vr d, vi (Int32.ofNat i), vi x] [])) rfl (hb hby d49_0)
  refine Fin.go st11 ?_
  show Fin _ _ _ _ _ _ _ _ T11 (mkF m 3 #[vr d, vi (Int32.ofNat i), vi x] [(.int (1 : Int32))])
  refine .go (fun _ k => XS.ifYes X11.here hx rfl (pc0 := 3) (pc' := 28) rfl (hb hby d49_3) rfl (XT.i0_ne_t (by decide)) (by decide) (by decide) k) ?_
  show Fin _ _ _ _ _ _ _ _ T11 (mkF m 28 #[vr d, vi (Int32.ofNat i), vi x] [])
  refine .go (fun _ k => XS.iloadN X11.here hx rfl (hb hby d49_28) rfl k) ?_
  refine .go (fun _ k => XS.iconst X11.here hx rfl (hb hby d49_29) k) ?_
  refine .go (fun _ k => XT.ishl X11.here hx rfl (hb hby d49_30) rfl k) ?_
  refine .go (fun _ k => XS.istoreN X11.here hx rfl (hb hby d49_31) rfl (l' := #[vr d, vi ((Int32.ofNat i) <<< ((1 : Int32) &&& 31)), vi x]) rfl k) ?_
  show Fin _ _ _ _ _ _ _ _ T11 (mkF m 32 #[vr d, vi ((Int32.ofNat i) <<< ((1 : Int32) &&& 31)), vi x] [])
  rw [on_2 (by omega)]
  show Fin _ _ _ _ _ _ _ _ T11 (mkF m 32 #[vr d, vi (Int32.ofNat (2 * i)), vi x] [])
  refine .go (fun _ k => XS.aloadN X11.here hx rfl (hb hby d49_32) rfl rfl k) ?_
  refine .go (fun _ k => XS.iloadN X11.here hx rfl (hb hby d49_33) rfl k) ?_
  refine .go (fun _ k => XS.iinc X11.here hx rfl (hb hby d49_34) rfl (l' := #[vr d, vi ((Int32.ofNat (2 * i)) + (1 : Int32)), vi x]) rfl k) ?_
  show Fin _ _ _ _ _ _ _ _ T11 (mkF m 37 #[vr d, vi ((Int32.ofNat (2 * i)) + (1 : Int32)), vi x] [(.int (Int32.ofNat (2 * i))), (.ref d)])
  rw [on_s]
  show Fin _ _ _ _ _ _ _ _ T11 (mkF m 37 #[vr d, vi (Int32.ofNat (2 * i + 1)), vi x] [(.int (Int32.ofNat (2 * i))), (.ref d)])
  refine .go (fun _ k => XS.iloadN X11.here hx rfl (hb hby d49_37) rfl k) ?_
  obtain ⟨T12, X12, e12, st12⟩ := getS2 X11 hx hZ hown (host := "") (Or.inl (hw _ w_260)) Via.refl e11 (S_hb.ext O.2) (g := (mkF m 38 #[vr d, vi (Int32.ofNat (2 * i + 1)), vi x] [(.int x), (.int (Int32.ofNat (2 * i))), (.ref d)])) rfl (hb hby d49_38)
  refine Fin.go st12 ?_
  show Fin _ _ _ _ _ _ _ _ T12 (mkF m 41 #[vr d, vi (Int32.ofNat (2 * i + 1)), vi x] [(.int (0 : Int32)), (.int x), (.int (Int32.ofNat (2 * i))), (.ref d)])
  refine .go (fun _ k => XT.ishr X12.here hx rfl (hb hby d49_41) rfl k) ?_
  refine .go (fun _ k => XT.i2b X12.here hx rfl (hb hby d49_42) rfl k) ?_
  obtain ⟨cz13, B13, q13, S13, M13, H13, G13⟩ := id VD
  obtain ⟨T13, h13, X13, e13, W13, st13⟩ := stB X12 hx hZ e12 B13 (j := (Int32.ofNat (2 * i))) (inb_of S13 ⟨(on_g (i := (2 * i)) (by omega)), (on_l (i := 2 * i) (by omega) (by omega))⟩) (g := (mkF m 43 #[vr d, vi (Int32.ofNat (2 * i + 1)), vi x] [(.int ((Int32.toInt8 (x >>> ((0 : Int32) &&& 31))).toInt32)), (.int (Int32.ofNat (2 * i))), (.ref d)])) rfl rfl (hb hby d49_43)
  refine Fin.go st13 ?_
  have V13 : Arv Z h13 d kd .byte (Int32.ofNat N) (ivL (ys.set (2 * i) ((Int32.toInt8 (x >>> ((0 : Int32) &&& 31))).toInt32))) (.int (0 : Int32)) := by have q : Arv Z h13 d kd .byte (Int32.ofNat N) ((ivL ys).set (2 * i) (.int (nar .byte ((Int32.toInt8 (x >>> ((0 : Int32) &&& 31))).toInt32)))) (.int (0 : Int32)) := Arv.set B13 q13 S13 M13 H13 G13 (fits_nar_byte _) W13 (2 * i) (on_n (i := (2 * i)) (by omega)) (by rw [ivl]; omega); rw [nar_b8, ivs] at q; exact q
  have N13 := Fr.snoc X13 N0 nd
  have O13 := O.wr W13 nd
  have K13 := K0.wr W13 (Or.inl (List.mem_of_getElem? (i := 0) rfl))
  show Fin _ _ _ _ _ _ _ _ T13 (mkF m 44 #[vr d, vi (Int32.ofNat (2 * i + 1)), vi x] [])
  refine .go (fun _ k => XS.aloadN X13.here hx rfl (hb hby d49_44) rfl rfl k) ?_
  refine .go (fun _ k => XS.iloadN X13.here hx rfl (hb hby d49_45) rfl k) ?_
  refine .go (fun _ k => XS.iloadN X13.here hx rfl (hb hby d49_46) rfl k) ?_
  obtain ⟨T14, X14, e14, st14⟩ := getS2 X13 hx hZ hown (host := "") (Or.inl (hw _ w_261)) Via.refl e13 (S_lb.ext O13.2) (g := (mkF m 47 #[vr d, vi (Int32.ofNat (2 * i + 1)), vi x] [(.int x), (.int (Int32.ofNat (2 * i + 1))), (.ref d)])) rfl (hb hby d49_47)
  refine Fin.go st14 ?_
  show Fin _ _ _ _ _ _ _ _ T14 (mkF m 50 #[vr d, vi (Int32.ofNat (2 * i + 1)), vi x] [(.int (8 : Int32)), (.int x), (.int (Int32.ofNat (2 * i + 1))), (.ref d)])
  refine .go (fun _ k => XT.ishr X14.here hx rfl (hb hby d49_50) rfl k) ?_
  refine .go (fun _ k => XT.i2b X14.here hx rfl (hb hby d49_51) rfl k) ?_
  obtain ⟨cz15, B15, q15, S15, M15, H15, G15⟩ := id V13
  obtain ⟨T15, h15, X15, e15, W15, st15⟩ := stB X14 hx hZ e14 B15 (j := (Int32.ofNat (2 * i + 1))) (inb_of S15 ⟨(on_g (i := (2 * i + 1)) (by omega)), (on_l (i := 2 * i + 1) (by omega) (by omega))⟩) (g := (mkF m 52 #[vr d, vi (Int32.ofNat (2 * i + 1)), vi x] [(.int ((Int32.toInt8 (x >>> ((8 : Int32) &&& 31))).toInt32)), (.int (Int32.ofNat (2 * i + 1))), (.ref d)])) rfl rfl (hb hby d49_52)
  refine Fin.go st15 ?_
  have V15 : Arv Z h15 d kd .byte (Int32.ofNat N) (ivL ((ys.set (2 * i) ((Int32.toInt8 (x >>> ((0 : Int32) &&& 31))).toInt32)).set (2 * i + 1) ((Int32.toInt8 (x >>> ((8 : Int32) &&& 31))).toInt32))) (.int (0 : Int32)) := by have q : Arv Z h15 d kd .byte (Int32.ofNat N) ((ivL (ys.set (2 * i) ((Int32.toInt8 (x >>> ((0 : Int32) &&& 31))).toInt32))).set (2 * i + 1) (.int (nar .byte ((Int32.toInt8 (x >>> ((8 : Int32) &&& 31))).toInt32)))) (.int (0 : Int32)) := Arv.set B15 q15 S15 M15 H15 G15 (fits_nar_byte _) W15 (2 * i + 1) (on_n (i := (2 * i + 1)) (by omega)) (by rw [ivl]; rw [List.length_set]; omega); rw [nar_b8, ivs] at q; exact q
  have N15 := Fr.snoc X15 N13 nd
  have O15 := O13.wr W15 nd
  have K15 := K13.wr W15 (Or.inl (List.mem_of_getElem? (i := 0) rfl))
  show Fin _ _ _ _ _ _ _ _ T15 (mkF m 53 #[vr d, vi (Int32.ofNat (2 * i + 1)), vi x] [])
  exact Fin.leaveN X15 e15 hlk (v := none) (fun _ => rfl) (by decide) (by decide) ⟨rfl, N15, K15, V15⟩ (fun fs hr => X15.returnOut hx hret (hb hby d49_53) hr)
theorem rmGetG (l : Launch) (Z : State) (a0 : Array Value) (hw : HW a0 Z) (n0 : Nat) (h0 : Heap) (O : Old Z n0 h0) (d : Addr) (kd : ClassId) (x : Int32) (ys : List Int32) (i : Nat) (N : Nat) (hN : ys.length = N) (hi : 2 * i + 1 < N) (hL : N ≤ 256) (h1 : ys.getD (2 * i) 0 = lo8 x) (h2 : ys.getD (2 * i + 1) 0 = hi8 x) (hc : ChI x) (VD : Arv Z h0 d kd .byte (Int32.ofNat N) (ivL ys) (.int (0 : Int32))) (S_as : SAs Z) (S_hb : SHb Z) (S_lb : SLb Z) :
    ConW FrameEnd l Z [] (⟨"java/lang/StringUTF16", "getChar", "([BI)C"⟩ : MethodName) jdk_52_method_5_code 2 (some .char) ({ frames := 0, cells := 0, slots := 0, locals := 0 } : Room) #[(.ref d), (.int (Int32.ofNat i))] h0 (Pure h0 (some (.int x))) := by
  refine conOf (plainFor_of_name pn_java_lang_StringUTF16) ?_
  intro p e s m below mth cc s₁ X0 hx hby hml hown hnm hret hlk hZ e0
  have N0 := Fr.nil n0
  refine Fin.came (castTop (t := _) (by first | (simp [entryFrame, mkF, argsToLocals, Value.category]; done) | rfl) (Steps.refl _) : Steps p.tables e below (s₁.setTop (entryFrame m #[(.ref d), (.int (Int32.ofNat i))] 2)) (s₁.setTop (mkF m 0 #[vr d, vi (Int32.ofNat i)] []))) ?_
  obtain ⟨T11, X11, e11, st11⟩ := getS2 X0 hx hZ hown (host := "") (Or.inl (hw _ w_259)) Via.refl e0 (S_as.ext O.2) (g := (mkF m 0 #[vr d, vi (Int32.ofNat i)] [])) rfl (hb hby d50_0)
  refine Fin.go st11 ?_
  show Fin _ _ _ _ _ _ _ _ T11 (mkF m 3 #[vr d, vi (Int32.ofNat i)] [(.int (1 : Int32))])
  refine .go (fun _ k => XS.ifYes X11.here hx rfl (pc0 := 3) (pc' := 28) rfl (hb hby d50_3) rfl (XT.i0_ne_t (by decide)) (by decide) (by decide) k) ?_
  show Fin _ _ _ _ _ _ _ _ T11 (mkF m 28 #[vr d, vi (Int32.ofNat i)] [])
  refine .go (fun _ k => XS.iloadN X11.here hx rfl (hb hby d50_28) rfl k) ?_
  refine .go (fun _ k => XS.iconst X11.here hx rfl (hb hby d50_29) k) ?_
  refine .go (fun _ k => XT.ishl X11.here hx rfl (hb hby d50_30) rfl k) ?_
  refine .go (fun _ k => XS.istoreN X11.here hx rfl (hb hby d50_31) rfl (l' := #[vr d, vi ((Int32.ofNat i) <<< ((1 : Int32) &&& 31))]) rfl k) ?_
  show Fin _ _ _ _ _ _ _ _ T11 (mkF m 32 #[vr d, vi ((Int32.ofNat i) <<< ((1 : Int32) &&& 31))] [])
  rw [on_2 (by omega)]
  show Fin _ _ _ _ _ _ _ _ T11 (mkF m 32 #[vr d, vi (Int32.ofNat (2 * i))] [])
  refine .go (fun _ k => XS.aloadN X11.here hx rfl (hb hby d50_32) rfl rfl k) ?_
  refine .go (fun _ k => XS.iloadN X11.here hx rfl (hb hby d50_33) rfl k) ?_
  refine .go (fun _ k => XS.iinc X11.here hx rfl (hb hby d50_34) rfl (l' := #[vr d, vi ((Int32.ofNat (2 * i)) + (1 : Int32))]) rfl k) ?_
  show Fin _ _ _ _ _ _ _ _ T11 (mkF m 37 #[vr d, vi ((Int32.ofNat (2 * i)) + (1 : Int32))] [(.int (Int32.ofNat (2 * i))), (.ref d)])
  rw [on_s]
  show Fin _ _ _ _ _ _ _ _ T11 (mkF m 37 #[vr d, vi (Int32.ofNat (2 * i + 1))] [(.int (Int32.ofNat (2 * i))), (.ref d)])
  obtain ⟨cz12, B12, q12, S12, M12, H12, G12⟩ := id VD
  have i12 := inb_of S12 ⟨(on_g (i := (2 * i)) (by omega)), (on_l (i := 2 * i) (by omega) (by omega))⟩
  refine Fin.go (fun _ k => X11.baloadBytes hx (j := (Int32.ofNat (2 * i))) (v := (.int (ys.getD (2 * i) 0))) (by rw [e11]; exact B12.1) (State.isArrayOf_alike hZ.alike B12.2.1) B12.2.2 i12 (Has.at H12 i12 (ivg (on_n (i := (2 * i)) (by omega)))) (g := (mkF m 37 #[vr d, vi (Int32.ofNat (2 * i + 1))] [(.int (Int32.ofNat (2 * i))), (.ref d)])) rfl rfl (hb hby d50_37) _ k) ?_
  show Fin _ _ _ _ _ _ _ _ T11 (mkF m 38 #[vr d, vi (Int32.ofNat (2 * i + 1))] [(.int (ys.getD (2 * i) 0))])
  refine .go (fun _ k => XS.sipush X11.here hx rfl (hb hby d50_38) k) ?_
  refine .go (fun _ k => XS.iand X11.here hx rfl (hb hby d50_41) rfl k) ?_
  obtain ⟨T13, X13, e13, st13⟩ := getS2 X11 hx hZ hown (host := "") (Or.inl (hw _ w_260)) Via.refl e11 (S_hb.ext O.2) (g := (mkF m 42 #[vr d, vi (Int32.ofNat (2 * i + 1))] [(.int ((ys.getD (2 * i) 0) &&& (255 : Int32)))])) rfl (hb hby d50_42)
  refine Fin.go st13 ?_
  show Fin _ _ _ _ _ _ _ _ T13 (mkF m 45 #[vr d, vi (Int32.ofNat (2 * i + 1))] [(.int (0 : Int32)), (.int ((ys.getD (2 * i) 0) &&& (255 : Int32)))])
  refine .go (fun _ k => XT.ishl X13.here hx rfl (hb hby d50_45) rfl k) ?_
  refine .go (fun _ k => XS.aloadN X13.here hx rfl (hb hby d50_46) rfl rfl k) ?_
  refine .go (fun _ k => XS.iloadN X13.here hx rfl (hb hby d50_47) rfl k) ?_
  obtain ⟨cz14, B14, q14, S14, M14, H14, G14⟩ := id VD
  have i14 := inb_of S14 ⟨(on_g (i := (2 * i + 1)) (by omega)), (on_l (i := 2 * i + 1) (by omega) (by omega))⟩
  refine Fin.go (fun _ k => X13.baloadBytes hx (j := (Int32.ofNat (2 * i + 1))) (v := (.int (ys.getD (2 * i + 1) 0))) (by rw [e13]; exact B14.1) (State.isArrayOf_alike hZ.alike B14.2.1) B14.2.2 i14 (Has.at H14 i14 (ivg (on_n (i := (2 * i + 1)) (by omega)))) (g := (mkF m 48 #[vr d, vi (Int32.ofNat (2 * i + 1))] [(.int (Int32.ofNat (2 * i + 1))), (.ref d), (.int (((ys.getD (2 * i) 0) &&& (255 : Int32)) <<< ((0 : Int32) &&& 31)))])) rfl rfl (hb hby d50_48) _ k) ?_
  show Fin _ _ _ _ _ _ _ _ T13 (mkF m 49 #[vr d, vi (Int32.ofNat (2 * i + 1))] [(.int (ys.getD (2 * i + 1) 0)), (.int (((ys.getD (2 * i) 0) &&& (255 : Int32)) <<< ((0 : Int32) &&& 31)))])
  refine .go (fun _ k => XS.sipush X13.here hx rfl (hb hby d50_49) k) ?_
  refine .go (fun _ k => XS.iand X13.here hx rfl (hb hby d50_52) rfl k) ?_
  obtain ⟨T15, X15, e15, st15⟩ := getS2 X13 hx hZ hown (host := "") (Or.inl (hw _ w_261)) Via.refl e13 (S_lb.ext O.2) (g := (mkF m 53 #[vr d, vi (Int32.ofNat (2 * i + 1))] [(.int ((ys.getD (2 * i + 1) 0) &&& (255 : Int32))), (.int (((ys.getD (2 * i) 0) &&& (255 : Int32)) <<< ((0 : Int32) &&& 31)))])) rfl (hb hby d50_53)
  refine Fin.go st15 ?_
  show Fin _ _ _ _ _ _ _ _ T15 (mkF m 56 #[vr d, vi (Int32.ofNat (2 * i + 1))] [(.int (8 : Int32)), (.int ((ys.getD (2 * i + 1) 0) &&& (255 : Int32))), (.int (((ys.getD (2 * i) 0) &&& (255 : Int32)) <<< ((0 : Int32) &&& 31)))])
  refine .go (fun _ k => XT.ishl X15.here hx rfl (hb hby d50_56) rfl k) ?_
  refine .go (fun _ k => XT.ior X15.here hx rfl (hb hby d50_57) rfl k) ?_
  refine .go (fun _ k => XT.i2c X15.here hx rfl (hb hby d50_58) rfl k) ?_
  exact Fin.leaveN X15 e15 hlk (v := some (.int (nar .char ((Int32.toUInt32 ((((ys.getD (2 * i) 0) &&& (255 : Int32)) <<< ((0 : Int32) &&& 31)) ||| (((ys.getD (2 * i + 1) 0) &&& (255 : Int32)) <<< ((8 : Int32) &&& 31)))).toUInt16.toUInt32.toInt32)))) (nvS hret) (by decide) (by decide) ⟨by rw [nar_c16, h1, h2, gch _ hc], rfl, rfl⟩ (fun fs hr => retN X15 hx (t := .char) hret (by simp) (hb hby d50_59) hr)
theorem rmNBLG (l : Launch) (Z : State) (a0 : Array Value) (hw : HW a0 Z) (n0 : Nat) (h0 : Heap) (O : Old Z n0 h0) (n : Nat) (hn : n ≤ 64) :
    ConW FrameEnd l Z [] (⟨"java/lang/StringUTF16", "newBytesLength", "(I)I"⟩ : MethodName) jdk_52_method_3_code 1 (some .int) ({ frames := 0, cells := 0, slots := 0, locals := 0 } : Room) #[(.int (Int32.ofNat n))] h0 (Pure h0 (some (.int (Int32.ofNat (2 * n))))) := by
  refine conOf (plainFor_of_name pn_java_lang_StringUTF16) ?_
  intro p e s m below mth cc s₁ X0 hx hby hml hown hnm hret hlk hZ e0
  have N0 := Fr.nil n0
  refine Fin.came (castTop (t := _) (by first | (simp [entryFrame, mkF, argsToLocals, Value.category]; done) | rfl) (Steps.refl _) : Steps p.tables e below (s₁.setTop (entryFrame m #[(.int (Int32.ofNat n))] 1)) (s₁.setTop (mkF m 0 #[vi (Int32.ofNat n)] []))) ?_
  refine .go (fun _ k => XS.iloadN X0.here hx rfl (hb hby d48_0) rfl k) ?_
  refine .go (fun _ k => XS.ifYes X0.here hx rfl (pc0 := 1) (pc' := 12) rfl (hb hby d48_1) rfl (XT.i0_ge_t (on_g (i := n) (by omega))) (by decide) (by decide) k) ?_
  show Fin _ _ _ _ _ _ _ _ s₁ (mkF m 12 #[vi (Int32.ofNat n)] [])
  refine .go (fun _ k => XS.iloadN X0.here hx rfl (hb hby d48_12) rfl k) ?_
  refine .go (fun _ k => X0.ldcI hx hown (mvT hZ (hw _ w_255)) rfl (hb hby d48_13) k) ?_
  refine .go (fun _ k => XS.icmpYes X0.here hx rfl (pc0 := 15) (pc' := 55) rfl (hb hby d48_15) rfl (XT.ii_lt_t (on_l (i := n) (k := 1073741823) (by omega) (by omega))) (by decide) (by decide) k) ?_
  show Fin _ _ _ _ _ _ _ _ s₁ (mkF m 55 #[vi (Int32.ofNat n)] [])
  refine .go (fun _ k => XS.iloadN X0.here hx rfl (hb hby d48_55) rfl k) ?_
  refine .go (fun _ k => XS.iconst X0.here hx rfl (hb hby d48_56) k) ?_
  refine .go (fun _ k => XT.ishl X0.here hx rfl (hb hby d48_57) rfl k) ?_
  exact Fin.leaveN X0 e0 hlk (v := some (.int ((Int32.ofNat n) <<< ((1 : Int32) &&& 31)))) (nvS hret) (by decide) (by decide) ⟨by rw [on_2 (by omega)], rfl, rfl⟩ (fun fs hr => retI X0 hx hret (hb hby d48_58) hr)
theorem rmNBFG (l : Launch) (Z : State) (a0 : Array Value) (hw : HW a0 Z) (n0 : Nat) (h0 : Heap) (O : Old Z n0 h0) (n : Nat) (hn : n ≤ 64) :
    ConW FrameEnd l Z [] (⟨"java/lang/StringUTF16", "newBytesFor", "(I)[B"⟩ : MethodName) jdk_52_method_2_code 1 (some (.array .byte)) ({ frames := 1, cells := 1, slots := 128, locals := 12 } : Room) #[(.int (Int32.ofNat n))] h0 (fun v h L => ∃ d kd, v = some (.ref d) ∧ Fr n0 L ∧ Keep h0 h [] ∧ Arv Z h d kd .byte (Int32.ofNat (2 * n)) (ivL (List.replicate (2 * n) 0)) (.int (0 : Int32)) ∧ h0.size ≤ d) := by
  refine conOf (plainFor_of_name pn_java_lang_StringUTF16) ?_
  intro p e s m below mth cc s₁ X0 hx hby hml hown hnm hret hlk hZ e0
  have N0 := Fr.nil n0
  have K0 := Keep.refl h0 ([] : List Addr)
  refine Fin.came (castTop (t := _) (by first | (simp [entryFrame, mkF, argsToLocals, Value.category]; done) | rfl) (Steps.refl _) : Steps p.tables e below (s₁.setTop (entryFrame m #[(.int (Int32.ofNat n))] 1)) (s₁.setTop (mkF m 0 #[vi (Int32.ofNat n)] []))) ?_
  refine .go (fun _ k => XS.iloadN X0.here hx rfl (hb hby d47_0) rfl k) ?_
  obtain ⟨v11, T11, L11, X11, q11, st11⟩ := callSt X0 hx hZ hown (hw _ w_252) (hw _ w_253) (hw _ w_37) (hw _ w_254) (by decide) (W := 0) (rmNBLG l Z a0 hw n0 h0 O n hn) e0 (by decide) (by decide) (by decide) (by decide) (g := (mkF m 1 #[vi (Int32.ofNat n)] [(.int (Int32.ofNat n))])) rfl (by rw [hml]; rfl) (argsL := [(.int (Int32.ofNat n))]) (rest := []) (lenOf pd_oIcI rfl) rfl (wk rfl rfl) (hb hby d47_1)
  obtain ⟨rfl, e11, rfl⟩ := q11
  have N11 := Fr.app N0 (Fr.nil n0)
  refine Fin.go st11 ?_
  show Fin _ _ _ _ _ _ _ _ T11 (mkF m 4 #[vi (Int32.ofNat n)] [(.int (Int32.ofNat (2 * n)))])
  obtain ⟨T12, h12, k12, X12, e12, E12, A12, st12⟩ := newP X11 hx hZ (aty := .byte) (hw _ w_15) e11 (g := (mkF m 4 #[vi (Int32.ofNat n)] [(.int (Int32.ofNat (2 * n)))])) rfl (hb hby d47_4) rfl (on_g (i := (2 * n)) (by omega)) (cap := 128) (by rw [on_n (by omega)]; omega) (by decide) (by decide) (by decide)
  obtain ⟨a12, g12⟩ : ∃ z, z = h0.size := ⟨_, rfl⟩
  rw [← g12] at A12 st12
  refine Fin.go st12 ?_
  have O12 := O.ext E12
  have K12 := K0.ext E12
  have n12 : n0 ≤ a12 := by have := O.2.1; have := O.1; omega
  have z12 : h0.size ≤ a12 := by have := K0.1; omega
  have V12 : Arv Z h12 a12 k12 .byte (Int32.ofNat (2 * n)) (ivL (List.replicate (2 * n) 0)) (.int (0 : Int32)) := by rw [ivr]; exact (Arv.new A12 (on_g (i := (2 * n)) (by omega))).pad (pad_rep [] (.int (0 : Int32)) (2 * n))
  show Fin _ _ _ _ _ _ _ _ T12 (mkF m 6 #[vi (Int32.ofNat n)] [(.ref a12)])
  exact Fin.leaveN X12 e12 hlk (v := some (.ref a12)) (nvS hret) (by decide) (by decide) ⟨a12, k12, rfl, N11, K12, V12, z12⟩ (fun fs hr => retOut X12 hx hret rfl (Or.inr (Or.inr (Or.inr (Or.inr ⟨rfl, rfl, rfl⟩)))) (hb hby d47_6) hr)
theorem rmTBG (l : Launch) (Z : State) (a0 : Array Value) (hw : HW a0 Z) (n0 : Nat) (h0 : Heap) (O : Old Z n0 h0) (b : Addr) (kb : ClassId) (xs : List Int32) (hL : xs.length ≤ 64) (VB : Arv Z h0 b kb .char (Int32.ofNat xs.length) (ivL xs) (.int (0 : Int32))) (S_as : SAs Z) (S_hb : SHb Z) (S_lb : SLb Z) :
    ConW FrameEnd l Z [] (⟨"java/lang/StringUTF16", "toBytes", "([CII)[B"⟩ : MethodName) jdk_52_method_14_code 5 (some (.array .byte)) ({ frames := 2, cells := 1, slots := 128, locals := 24 } : Room) #[(.ref b), (.int (0 : Int32)), (.int (Int32.ofNat xs.length))] h0 (fun v h L => ∃ d kd, v = some (.ref d) ∧ Fr n0 L ∧ Keep h0 h [] ∧ Arv Z h d kd .byte (Int32.ofNat (2 * xs.length)) (ivL (u8 xs)) (.int (0 : Int32)) ∧ h0.size ≤ d) := by
  refine conOf (plainFor_of_name pn_java_lang_StringUTF16) ?_
  intro p e s m below mth cc s₁ X0 hx hby hml hown hnm hret hlk hZ e0
  have N0 := Fr.nil n0
  have K0 := Keep.refl h0 ([] : List Addr)
  refine Fin.came (castTop (t := _) (by first | (simp [entryFrame, mkF, argsToLocals, Value.category]; done) | rfl) (Steps.refl _) : Steps p.tables e below (s₁.setTop (entryFrame m #[(.ref b), (.int (0 : Int32)), (.int (Int32.ofNat xs.length))] 5)) (s₁.setTop (mkF m 0 #[vr b, vi (0 : Int32), vi (Int32.ofNat xs.length), .unset, .unset] []))) ?_
  refine .go (fun _ k => XS.iloadN X0.here hx rfl (hb hby d46_0) rfl k) ?_
  obtain ⟨v11, T11, L11, X11, q11, st11⟩ := callSt X0 hx hZ hown (hw _ w_249) (hw _ w_250) (hw _ w_37) (hw _ w_251) (by decide) (W := 0) (rmNBFG l Z a0 hw n0 h0 O xs.length hL) e0 (by decide) (by decide) (by decide) (by decide) (g := (mkF m 1 #[vr b, vi (0 : Int32), vi (Int32.ofNat xs.length), .unset, .unset] [(.int (Int32.ofNat xs.length))])) rfl (by rw [hml]; rfl) (argsL := [(.int (Int32.ofNat xs.length))]) (rest := []) (lenOf pd_oIcAB rfl) rfl (wk rfl rfl) (hb hby d46_1)
  obtain ⟨d11, kd11, rfl, Nq11, Kq11, V11, zd11⟩ := q11
  have N11 := Fr.app N0 Nq11
  have O11 := O.keep Kq11 all0
  have K11 := K0.trans Kq11 all0
  refine Fin.go st11 ?_
  show Fin _ _ _ _ _ _ _ _ T11 (mkF m 4 #[vr b, vi (0 : Int32), vi (Int32.ofNat xs.length), .unset, .unset] [(.ref d11)])
  have nzd11 : n0 ≤ d11 := Nat.le_trans (by have := O.1; have := O.2.1; omega) zd11
  have hzd11 : h0.size ≤ d11 := Nat.le_trans K0.1 zd11
  have hz11 : h0.size ≤ d11 := zd11
  refine .go (fun _ k => XS.astoreN X11.here hx rfl (hb hby d46_4) rfl rfl (l' := #[vr b, vi (0 : Int32), vi (Int32.ofNat xs.length), vr d11, .unset]) rfl k) ?_
  refine .go (fun _ k => XS.iconst X11.here hx rfl (hb hby d46_5) k) ?_
  refine .go (fun _ k => XS.istore X11.here hx rfl (hb hby d46_6) rfl (l' := #[vr b, vi (0 : Int32), vi (Int32.ofNat xs.length), vr d11, vi (0 : Int32)]) rfl k) ?_
  show Fin _ _ _ _ _ _ _ _ T11 (mkF m 8 #[vr b, vi (0 : Int32), vi (Int32.ofNat xs.length), vr d11, vi (0 : Int32)] [])
  have loop : ∀ (r i : Nat) (hi : i + r = xs.length) (T : State) (L : List Loc) (X : Stand p l e ({ frames := 2, cells := 1, slots := 128, locals := 24 } : Room) s m #[(.ref b), (.int (0 : Int32)), (.int (Int32.ofNat xs.length))] below mth cc T L 1 128) (h : Heap) (eT : T.heap = h) (N1 : Fr n0 L) (O1 : Old Z n0 h) (K1 : Keep h0 h []) (V1 : Arv Z h d11 kd11 .byte (Int32.ofNat (2 * xs.length)) (ivL (mixU xs i)) (.int (0 : Int32))), Fin FrameEnd p e below s (fun v h L => ∃ d kd, v = some (.ref d) ∧ Fr n0 L ∧ Keep h0 h [] ∧ Arv Z h d kd .byte (Int32.ofNat (2 * xs.length)) (ivL (u8 xs)) (.int (0 : Int32)) ∧ h0.size ≤ d) 1 128 T (mkF m 8 #[vr b, vi (Int32.ofNat i), vi (Int32.ofNat xs.length), vr d11, vi (Int32.ofNat i)] []) := by
    intro r
    induction r with
    | zero =>
      intro i hi T L X h eT N1 O1 K1 V1
      refine .go (fun _ k => XS.iload X.here hx rfl (hb hby d46_8) rfl k) ?_
      refine .go (fun _ k => XS.iloadN X.here hx rfl (hb hby d46_10) rfl k) ?_
      refine .go (fun _ k => XS.icmpYes X.here hx rfl (pc0 := 11) (pc' := 32) rfl (hb hby d46_11) rfl (XT.ii_ge_t (on_nl (by omega) (by omega))) (by decide) (by decide) k) ?_
      show Fin _ _ _ _ _ _ _ _ T (mkF m 32 #[vr b, vi (Int32.ofNat i), vi (Int32.ofNat xs.length), vr d11, vi (Int32.ofNat i)] [])
      refine .go (fun _ k => XS.aloadN X.here hx rfl (hb hby d46_32) rfl rfl k) ?_
      exact Fin.leaveN X eT hlk (v := some (.ref d11)) (nvS hret) (by decide) (by decide) ⟨d11, kd11, rfl, N1, K1, (by obtain rfl : i = xs.length := (by omega); rw [← mixUN]; exact V1), hz11⟩ (fun fs hr => retOut X hx hret rfl (Or.inr (Or.inr (Or.inr (Or.inr ⟨rfl, rfl, rfl⟩)))) (hb hby d46_33) hr)
    | succ r ih =>
      intro i hi T L X h eT N1 O1 K1 V1
      refine .go (fun _ k => XS.iload X.here hx rfl (hb hby d46_8) rfl k) ?_
      refine .go (fun _ k => XS.iloadN X.here hx rfl (hb hby d46_10) rfl k) ?_
      refine .go (fun _ k => XS.icmpNo X.here hx rfl (hb hby d46_11) rfl (XT.ii_ge_f (on_l (by omega) (by omega))) k) ?_
      show Fin _ _ _ _ _ _ _ _ T (mkF m 14 #[vr b, vi (Int32.ofNat i), vi (Int32.ofNat xs.length), vr d11, vi (Int32.ofNat i)] [])
      refine .go (fun _ k => XS.aloadN X.here hx rfl (hb hby d46_14) rfl rfl k) ?_
      refine .go (fun _ k => XS.iload X.here hx rfl (hb hby d46_15) rfl k) ?_
      refine .go (fun _ k => XS.aloadN X.here hx rfl (hb hby d46_17) rfl rfl k) ?_
      refine .go (fun _ k => XS.iloadN X.here hx rfl (hb hby d46_18) rfl k) ?_
      show Fin _ _ _ _ _ _ _ _ T (mkF m 19 #[vr b, vi (Int32.ofNat i), vi (Int32.ofNat xs.length), vr d11, vi (Int32.ofNat i)] [(.int (Int32.ofNat i)), (.ref b), (.int (Int32.ofNat i)), (.ref d11)])
      obtain ⟨cz12, B12, q12, S12, M12, H12, G12⟩ := id (VB.keep K1 nin0)
      have i12 := inb_of S12 ⟨(on_g (i := i) (by omega)), (on_l (by omega) (by omega))⟩
      refine Fin.go (fun _ k => X.caload hx (j := (Int32.ofNat i)) (v := (.int (xs.getD i 0))) (by rw [eT]; exact B12.1) (State.isArrayOf_alike hZ.alike B12.2.1) B12.2.2 i12 (Has.at H12 i12 (ivg (on_n (i := i) (by omega)))) (g := (mkF m 19 #[vr b, vi (Int32.ofNat i), vi (Int32.ofNat xs.length), vr d11, vi (Int32.ofNat i)] [(.int (Int32.ofNat i)), (.ref b), (.int (Int32.ofNat i)), (.ref d11)])) rfl rfl (hb hby d46_19) _ k) ?_
      show Fin _ _ _ _ _ _ _ _ T (mkF m 20 #[vr b, vi (Int32.ofNat i), vi (Int32.ofNat xs.length), vr d11, vi (Int32.ofNat i)] [(.int (xs.getD i 0)), (.int (Int32.ofNat i)), (.ref d11)])
      obtain ⟨v13, T13, L13, X13, q13, st13⟩ := callSt X hx hZ hown (hw _ w_256) (hw _ w_257) (hw _ w_37) (hw _ w_258) (by decide) (W := 0) (rmPutG l Z a0 hw n0 h O1 d11 kd11 (xs.getD i 0) (mixU xs i) i (2 * xs.length) (mixUL _ _ (by omega)) (by omega) (by omega) V1 nzd11 S_as S_hb S_lb) eT (by decide) (by decide) (by decide) (by decide) (g := (mkF m 20 #[vr b, vi (Int32.ofNat i), vi (Int32.ofNat xs.length), vr d11, vi (Int32.ofNat i)] [(.int (xs.getD i 0)), (.int (Int32.ofNat i)), (.ref d11)])) rfl (by rw [hml]; rfl) (argsL := [(.ref d11), (.int (Int32.ofNat i)), (.int (xs.getD i 0))]) (rest := []) (lenOf pd_oABIIcV rfl) rfl (wk rfl rfl) (hb hby d46_20)
      obtain ⟨rfl, Nq13, Kq13, V13⟩ := q13
      have N13 := Fr.app N1 Nq13
      have O13 := O1.keep Kq13 (allS nzd11 all0)
      have K13 := K1.trans Kq13 (allS (Or.inr hz11) all0)
      refine Fin.go st13 ?_
      have V13_b := ((VB.keep K1 nin0).keep Kq13 (ninS (Nat.ne_of_lt (Nat.lt_of_lt_of_le VB.lt zd11)) nin0))
      show Fin _ _ _ _ _ _ _ _ T13 (mkF m 23 #[vr b, vi (Int32.ofNat i), vi (Int32.ofNat xs.length), vr d11, vi (Int32.ofNat i)] [])
      rw [mixUS (by omega)] at V13
      refine .go (fun _ k => XS.iinc X13.here hx rfl (hb hby d46_23) rfl (l' := #[vr b, vi ((Int32.ofNat i) + (1 : Int32)), vi (Int32.ofNat xs.length), vr d11, vi (Int32.ofNat i)]) rfl k) ?_
      refine .go (fun _ k => XS.iinc X13.here hx rfl (hb hby d46_26) rfl (l' := #[vr b, vi ((Int32.ofNat i) + (1 : Int32)), vi (Int32.ofNat xs.length), vr d11, vi ((Int32.ofNat i) + (1 : Int32))]) rfl k) ?_
      refine .go (fun _ k => XS.goto X13.here hx rfl (pc0 := 29) (pc' := 8) rfl (hb hby d46_29) (by decide) (by decide) k) ?_
      show Fin _ _ _ _ _ _ _ _ T13 (mkF m 8 #[vr b, vi ((Int32.ofNat i) + (1 : Int32)), vi (Int32.ofNat xs.length), vr d11, vi ((Int32.ofNat i) + (1 : Int32))] [])
      rw [on_s]
      exact ih (i + 1) (by omega) T13 _ X13 _ (rfl : T13.heap = T13.heap) N13 O13 K13 V13
  exact loop xs.length 0 (by omega) T11 _ X11 _ (rfl : T11.heap = T11.heap) N11 O11 K11 (by rw [mixU0]; exact V11)
theorem rmCAG (l : Launch) (Z : State) (a0 : Array Value) (hw : HW a0 Z) (n0 : Nat) (h0 : Heap) (O : Old Z n0 h0) (b : Addr) (kb : ClassId) (xs : List Int32) (hL : xs.length ≤ 64) (hch : ∀ k, k < xs.length → ChI (xs.getD k 0)) (VB : Arv Z h0 b kb .char (Int32.ofNat xs.length) (ivL xs) (.int (0 : Int32))) (S_as : SAs Z) (S_hb : SHb Z) (S_lb : SLb Z) :
    ConW FrameEnd l Z [] (⟨"java/lang/StringUTF16", "compress", "([CII)[B"⟩ : MethodName) jdk_52_method_16_code 6 (some (.array .byte)) ({ frames := 3, cells := 2, slots := 192, locals := 40 } : Room) #[(.ref b), (.int (0 : Int32)), (.int (Int32.ofNat xs.length))] h0 (fun v h L => ∃ d kd, v = some (.ref d) ∧ Fr n0 L ∧ Keep h0 h [] ∧ h0.size ≤ d ∧ (((∀ k, k < xs.length → ¬ (255 : Int32) < xs.getD k 0) ∧ Arv Z h d kd .byte (Int32.ofNat xs.length) (ivL (xs.map b8f)) (.int (0 : Int32))) ∨ ((∃ k, k < xs.length ∧ (255 : Int32) < xs.getD k 0) ∧ Arv Z h d kd .byte (Int32.ofNat (2 * xs.length)) (ivL (u8 xs)) (.int (0 : Int32))))) := by
  refine conOf (plainFor_of_name pn_java_lang_StringUTF16) ?_
  intro p e s m below mth cc s₁ X0 hx hby hml hown hnm hret hlk hZ e0
  have N0 := Fr.nil n0
  have K0 := Keep.refl h0 ([] : List Addr)
  refine Fin.came (castTop (t := _) (by first | (simp [entryFrame, mkF, argsToLocals, Value.category]; done) | rfl) (Steps.refl _) : Steps p.tables e below (s₁.setTop (entryFrame m #[(.ref b), (.int (0 : Int32)), (.int (Int32.ofNat xs.length))] 6)) (s₁.setTop (mkF m 0 #[vr b, vi (0 : Int32), vi (Int32.ofNat xs.length), .unset, .unset, .unset] []))) ?_
  refine .go (fun _ k => XS.iloadN X0.here hx rfl (hb hby d8_0) rfl k) ?_
  obtain ⟨T11, h11, k11, X11, e11, E11, A11, st11⟩ := newP X0 hx hZ (aty := .byte) (hw _ w_15) e0 (g := (mkF m 1 #[vr b, vi (0 : Int32), vi (Int32.ofNat xs.length), .unset, .unset, .unset] [(.int (Int32.ofNat xs.length))])) rfl (hb hby d8_1) rfl (on_g (i := xs.length) (by omega)) (cap := 64) (by rw [on_n (by omega)]; omega) (by decide) (by decide) (by decide)
  obtain ⟨a11, g11⟩ : ∃ z, z = h0.size := ⟨_, rfl⟩
  rw [← g11] at A11 st11
  refine Fin.go st11 ?_
  have O11 := O.ext E11
  have K11 := K0.ext E11
  have n11 : n0 ≤ a11 := by have := O.2.1; have := O.1; omega
  have z11 : h0.size ≤ a11 := by have := K0.1; omega
  have V11 : Arv Z h11 a11 k11 .byte (Int32.ofNat xs.length) (ivL (List.replicate xs.length 0)) (.int (0 : Int32)) := by rw [ivr]; exact (Arv.new A11 (on_g (i := xs.length) (by omega))).pad (pad_rep [] (.int (0 : Int32)) xs.length)
  show Fin _ _ _ _ _ _ _ _ T11 (mkF m 3 #[vr b, vi (0 : Int32), vi (Int32.ofNat xs.length), .unset, .unset, .unset] [(.ref a11)])
  refine .go (fun _ k => XS.astoreN X11.here hx rfl (hb hby d8_3) rfl rfl (l' := #[vr b, vi (0 : Int32), vi (Int32.ofNat xs.length), vr a11, .unset, .unset]) rfl k) ?_
  refine .go (fun _ k => XS.aloadN X11.here hx rfl (hb hby d8_4) rfl rfl k) ?_
  refine .go (fun _ k => XS.iloadN X11.here hx rfl (hb hby d8_5) rfl k) ?_
  refine .go (fun _ k => XS.aloadN X11.here hx rfl (hb hby d8_6) rfl rfl k) ?_
  show Fin _ _ _ _ _ _ _ _ T11 (mkF m 7 #[vr b, vi (0 : Int32), vi (Int32.ofNat xs.length), vr a11, .unset, .unset] [(.ref a11), (.int (0 : Int32)), (.ref b)])
  refine .go (fun _ k => XS.iconst X11.here hx rfl (hb hby d8_7) k) ?_
  refine .go (fun _ k => XS.iloadN X11.here hx rfl (hb hby d8_8) rfl k) ?_
  obtain ⟨v12, T12, L12, X12, q12, st12⟩ := callSt X11 hx hZ hown (hw _ w_39) (hw _ w_40) (hw _ w_37) (hw _ w_41) (by decide) (W := 0) (rmCmpG l Z a0 hw n0 h11 O11 b a11 kb k11 xs hL (VB.ext E11) V11 n11 (Nat.ne_of_lt (Nat.lt_of_lt_of_eq VB.lt g11.symm))) e11 (by decide) (by decide) (by decide) (by decide) (g := (mkF m 9 #[vr b, vi (0 : Int32), vi (Int32.ofNat xs.length), vr a11, .unset, .unset] [(.int (Int32.ofNat xs.length)), (.int (0 : Int32)), (.ref a11), (.int (0 : Int32)), (.ref b)])) rfl (by rw [hml]; rfl) (argsL := [(.ref b), (.int (0 : Int32)), (.ref a11), (.int (0 : Int32)), (.int (Int32.ofNat xs.length))]) (rest := []) (lenOf pd_oACIABIIcI rfl) rfl (wk rfl rfl) (hb hby d8_9)
  obtain ⟨c, rfl, Nq12, Kq12, hd⟩ := q12
  have N12 := Fr.app N0 Nq12
  have O12 := O11.keep Kq12 (allS n11 all0)
  have K12 := K11.trans Kq12 (allS (Or.inr z11) all0)
  refine Fin.go st12 ?_
  have V12_b := ((VB.ext E11).keep Kq12 (ninS (Nat.ne_of_lt (Nat.lt_of_lt_of_eq VB.lt g11.symm)) nin0))
  rcases hd with ⟨rfl, hall, V1⟩ | ⟨hc, hq⟩
  · show Fin _ _ _ _ _ _ _ _ T12 (mkF m 12 #[vr b, vi (0 : Int32), vi (Int32.ofNat xs.length), vr a11, .unset, .unset] [(.int (Int32.ofNat xs.length))])
    refine .go (fun _ k => XS.istore X12.here hx rfl (hb hby d8_12) rfl (l' := #[vr b, vi (0 : Int32), vi (Int32.ofNat xs.length), vr a11, vi (Int32.ofNat xs.length), .unset]) rfl k) ?_
    refine .go (fun _ k => XS.iload X12.here hx rfl (hb hby d8_14) rfl k) ?_
    refine .go (fun _ k => XS.iloadN X12.here hx rfl (hb hby d8_16) rfl k) ?_
    refine .go (fun _ k => XS.icmpYes X12.here hx rfl (pc0 := 17) (pc' := 57) rfl (hb hby d8_17) rfl (XT.ii_eq_t rfl) (by decide) (by decide) k) ?_
    show Fin _ _ _ _ _ _ _ _ T12 (mkF m 57 #[vr b, vi (0 : Int32), vi (Int32.ofNat xs.length), vr a11, vi (Int32.ofNat xs.length), .unset] [])
    refine .go (fun _ k => XS.aloadN X12.here hx rfl (hb hby d8_57) rfl rfl k) ?_
    exact Fin.leaveN X12 (rfl : T12.heap = T12.heap) hlk (v := some (.ref a11)) (nvS hret) (by decide) (by decide) ⟨a11, k11, rfl, N12, K12, z11, Or.inl ⟨hall, V1⟩⟩ (fun fs hr => retOut X12 hx hret rfl (Or.inr (Or.inr (Or.inr (Or.inr ⟨rfl, rfl, rfl⟩)))) (hb hby d8_58) hr)
  · show Fin _ _ _ _ _ _ _ _ T12 (mkF m 12 #[vr b, vi (0 : Int32), vi (Int32.ofNat xs.length), vr a11, .unset, .unset] [(.int (Int32.ofNat c))])
    refine .go (fun _ k => XS.istore X12.here hx rfl (hb hby d8_12) rfl (l' := #[vr b, vi (0 : Int32), vi (Int32.ofNat xs.length), vr a11, vi (Int32.ofNat c), .unset]) rfl k) ?_
    refine .go (fun _ k => XS.iload X12.here hx rfl (hb hby d8_14) rfl k) ?_
    refine .go (fun _ k => XS.iloadN X12.here hx rfl (hb hby d8_16) rfl k) ?_
    refine .go (fun _ k => XS.icmpNo X12.here hx rfl (hb hby d8_17) rfl (XT.ii_eq_f (on_ne hc (by omega))) k) ?_
    show Fin _ _ _ _ _ _ _ _ T12 (mkF m 20 #[vr b, vi (0 : Int32), vi (Int32.ofNat xs.length), vr a11, vi (Int32.ofNat c), .unset] [])
    refine .go (fun _ k => XS.aloadN X12.here hx rfl (hb hby d8_20) rfl rfl k) ?_
    refine .go (fun _ k => XS.iloadN X12.here hx rfl (hb hby d8_21) rfl k) ?_
    refine .go (fun _ k => XS.iloadN X12.here hx rfl (hb hby d8_22) rfl k) ?_
    obtain ⟨v13, T13, L13, X13, q13, st13⟩ := callSt X12 hx hZ hown (hw _ w_246) (hw _ w_247) (hw _ w_37) (hw _ w_248) (by decide) (W := 0) (rmTBG l Z a0 hw n0 T12.heap O12 b kb xs hL V12_b S_as S_hb S_lb) (rfl : T12.heap = T12.heap) (by decide) (by decide) (by decide) (by decide) (g := (mkF m 23 #[vr b, vi (0 : Int32), vi (Int32.ofNat xs.length), vr a11, vi (Int32.ofNat c), .unset] [(.int (Int32.ofNat xs.length)), (.int (0 : Int32)), (.ref b)])) rfl (by rw [hml]; rfl) (argsL := [(.ref b), (.int (0 : Int32)), (.int (Int32.ofNat xs.length))]) (rest := []) (lenOf pd_oACIIcAB rfl) rfl (wk rfl rfl) (hb hby d8_23)
    obtain ⟨d13, kd13, rfl, Nq13, Kq13, V13, zd13⟩ := q13
    have N13 := Fr.app N12 Nq13
    have O13 := O12.keep Kq13 all0
    have K13 := K12.trans Kq13 all0
    refine Fin.go st13 ?_
    show Fin _ _ _ _ _ _ _ _ T13 (mkF m 26 #[vr b, vi (0 : Int32), vi (Int32.ofNat xs.length), vr a11, vi (Int32.ofNat c), .unset] [(.ref d13)])
    have nzd13 : n0 ≤ d13 := Nat.le_trans (by have := O12.1; have := O12.2.1; omega) zd13
    have hzd13 : h0.size ≤ d13 := Nat.le_trans K12.1 zd13
    refine .go (fun _ k => XS.astore X13.here hx rfl (hb hby d8_26) rfl rfl (l' := #[vr b, vi (0 : Int32), vi (Int32.ofNat xs.length), vr a11, vi (Int32.ofNat c), vr d13]) rfl k) ?_
    refine .go (fun _ k => XS.aload X13.here hx rfl (hb hby d8_28) rfl rfl k) ?_
    refine .go (fun _ k => XS.iload X13.here hx rfl (hb hby d8_30) rfl k) ?_
    obtain ⟨v14, T14, L14, X14, q14, st14⟩ := callSt X13 hx hZ hown (hw _ w_262) (hw _ w_263) (hw _ w_37) (hw _ w_264) (by decide) (W := 0) (rmGetG l Z a0 hw n0 T13.heap O13 d13 kd13 (xs.getD c 0) (u8 xs) c (2 * xs.length) (u8_len _) (by omega) (by omega) (u8_g hc).1 (u8_g hc).2 (hch _ hc) V13 S_as S_hb S_lb) (rfl : T13.heap = T13.heap) (by decide) (by decide) (by decide) (by decide) (g := (mkF m 32 #[vr b, vi (0 : Int32), vi (Int32.ofNat xs.length), vr a11, vi (Int32.ofNat c), vr d13] [(.int (Int32.ofNat c)), (.ref d13)])) rfl (by rw [hml]; rfl) (argsL := [(.ref d13), (.int (Int32.ofNat c))]) (rest := []) (lenOf pd_oABIcC rfl) rfl (wk rfl rfl) (hb hby d8_32)
    obtain ⟨rfl, e14, rfl⟩ := q14
    have N14 := Fr.app N13 (Fr.nil n0)
    refine Fin.go st14 ?_
    show Fin _ _ _ _ _ _ _ _ T14 (mkF m 35 #[vr b, vi (0 : Int32), vi (Int32.ofNat xs.length), vr a11, vi (Int32.ofNat c), vr d13] [(.int (xs.getD c 0))])
    refine .go (fun _ k => XS.sipush X14.here hx rfl (hb hby d8_35) k) ?_
    refine .go (fun _ k => XS.icmpYes X14.here hx rfl (pc0 := 38) (pc' := 54) rfl (hb hby d8_38) rfl (XT.ii_gt_t hq) (by decide) (by decide) k) ?_
    show Fin _ _ _ _ _ _ _ _ T14 (mkF m 54 #[vr b, vi (0 : Int32), vi (Int32.ofNat xs.length), vr a11, vi (Int32.ofNat c), vr d13] [])
    refine .go (fun _ k => XS.aload X14.here hx rfl (hb hby d8_54) rfl rfl k) ?_
    exact Fin.leaveN X14 e14 hlk (v := some (.ref d13)) (nvS hret) (by decide) (by decide) ⟨d13, kd13, rfl, N14, K13, hzd13, Or.inr ⟨⟨c, hc, hq⟩, V13⟩⟩ (fun fs hr => retOut X14 hx hret rfl (Or.inr (Or.inr (Or.inr (Or.inr ⟨rfl, rfl, rfl⟩)))) (hb hby d8_56) hr)
theorem rmCodL (l : Launch) (Z : State) (a0 : Array Value) (hw : HW a0 Z) (n0 : Nat) (h0 : Heap) (O : Old Z n0 h0) (d : Addr) (kd : ClassId) (xs : List Int32) (h0' : 0 < xs.length) (hL : xs.length ≤ 64) (VD : Arv Z h0 d kd .byte (Int32.ofNat xs.length) (ivL (xs.map b8f)) (.int (0 : Int32))) :
    ConW FrameEnd l Z [] (⟨"java/lang/StringUTF16", "coderFromArrayLen", "([BI)B"⟩ : MethodName) jdk_52_method_15_code 2 (some .byte) ({ frames := 0, cells := 0, slots := 0, locals := 0 } : Room) #[(.ref d), (.int (Int32.ofNat xs.length))] h0 (Pure h0 (some (.int (0 : Int32)))) := by
  refine conOf (plainFor_of_name pn_java_lang_StringUTF16) ?_
  intro p e s m below mth cc s₁ X0 hx hby hml hown hnm hret hlk hZ e0
  have N0 := Fr.nil n0
  refine Fin.came (castTop (t := _) (by first | (simp [entryFrame, mkF, argsToLocals, Value.category]; done) | rfl) (Steps.refl _) : Steps p.tables e below (s₁.setTop (entryFrame m #[(.ref d), (.int (Int32.ofNat xs.length))] 2)) (s₁.setTop (mkF m 0 #[vr d, vi (Int32.ofNat xs.length)] []))) ?_
  refine .go (fun _ k => XS.iloadN X0.here hx rfl (hb hby d10_0) rfl k) ?_
  refine .go (fun _ k => XS.aloadN X0.here hx rfl (hb hby d10_1) rfl rfl k) ?_
  obtain ⟨cz11, B11, q11, S11, M11, H11, G11⟩ := id VD
  refine Fin.go (fun _ k => X0.arraylength hx (by rw [e0]; exact B11.1) (State.isArrayOf_alike hZ.alike B11.2.1) (g := (mkF m 2 #[vr d, vi (Int32.ofNat xs.length)] [(.ref d), (.int (Int32.ofNat xs.length))])) rfl rfl (hb hby d10_2) _ k) ?_
  rw [len_of S11 M11]
  show Fin _ _ _ _ _ _ _ _ s₁ (mkF m 3 #[vr d, vi (Int32.ofNat xs.length)] [(.int (Int32.ofNat xs.length)), (.int (Int32.ofNat xs.length))])
  refine .go (fun _ k => XS.isub X0.here hx rfl (hb hby d10_3) rfl k) ?_
  refine .go (fun _ k => XS.bipush X0.here hx rfl (hb hby d10_4) k) ?_
  refine .go (fun _ k => XT.iushr X0.here hx rfl (hb hby d10_6) rfl k) ?_
  refine .go (fun _ k => XT.i2b X0.here hx rfl (hb hby d10_7) rfl k) ?_
  show Fin _ _ _ _ _ _ _ _ s₁ (mkF m 8 #[vr d, vi (Int32.ofNat xs.length)] [(.int ((Int32.toInt8 (XT.ushr ((Int32.ofNat xs.length) - (Int32.ofNat xs.length)) (31 : Int32))).toInt32))])
  exact Fin.leaveN X0 e0 hlk (v := some (.int (nar .byte ((Int32.toInt8 (XT.ushr ((Int32.ofNat xs.length) - (Int32.ofNat xs.length)) (31 : Int32))).toInt32)))) (nvS hret) (by decide) (by decide) ⟨by rw [codL _], rfl, rfl⟩ (fun fs hr => retN X0 hx (t := .byte) hret (by simp) (hb hby d10_8) hr)
theorem rmCodU (l : Launch) (Z : State) (a0 : Array Value) (hw : HW a0 Z) (n0 : Nat) (h0 : Heap) (O : Old Z n0 h0) (d : Addr) (kd : ClassId) (xs : List Int32) (h0' : 0 < xs.length) (hL : xs.length ≤ 64) (VD : Arv Z h0 d kd .byte (Int32.ofNat (2 * xs.length)) (ivL (u8 xs)) (.int (0 : Int32))) :
    ConW FrameEnd l Z [] (⟨"java/lang/StringUTF16", "coderFromArrayLen", "([BI)B"⟩ : MethodName) jdk_52_method_15_code 2 (some .byte) ({ frames := 0, cells := 0, slots := 0, locals := 0 } : Room) #[(.ref d), (.int (Int32.ofNat xs.length))] h0 (Pure h0 (some (.int (1 : Int32)))) := by
  refine conOf (plainFor_of_name pn_java_lang_StringUTF16) ?_
  intro p e s m below mth cc s₁ X0 hx hby hml hown hnm hret hlk hZ e0
  have N0 := Fr.nil n0
  refine Fin.came (castTop (t := _) (by first | (simp [entryFrame, mkF, argsToLocals, Value.category]; done) | rfl) (Steps.refl _) : Steps p.tables e below (s₁.setTop (entryFrame m #[(.ref d), (.int (Int32.ofNat xs.length))] 2)) (s₁.setTop (mkF m 0 #[vr d, vi (Int32.ofNat xs.length)] []))) ?_
  refine .go (fun _ k => XS.iloadN X0.here hx rfl (hb hby d10_0) rfl k) ?_
  refine .go (fun _ k => XS.aloadN X0.here hx rfl (hb hby d10_1) rfl rfl k) ?_
  obtain ⟨cz11, B11, q11, S11, M11, H11, G11⟩ := id VD
  refine Fin.go (fun _ k => X0.arraylength hx (by rw [e0]; exact B11.1) (State.isArrayOf_alike hZ.alike B11.2.1) (g := (mkF m 2 #[vr d, vi (Int32.ofNat xs.length)] [(.ref d), (.int (Int32.ofNat xs.length))])) rfl rfl (hb hby d10_2) _ k) ?_
  rw [len_of S11 M11]
  show Fin _ _ _ _ _ _ _ _ s₁ (mkF m 3 #[vr d, vi (Int32.ofNat xs.length)] [(.int (Int32.ofNat (2 * xs.length))), (.int (Int32.ofNat xs.length))])
  refine .go (fun _ k => XS.isub X0.here hx rfl (hb hby d10_3) rfl k) ?_
  refine .go (fun _ k => XS.bipush X0.here hx rfl (hb hby d10_4) k) ?_
  refine .go (fun _ k => XT.iushr X0.here hx rfl (hb hby d10_6) rfl k) ?_
  refine .go (fun _ k => XT.i2b X0.here hx rfl (hb hby d10_7) rfl k) ?_
  show Fin _ _ _ _ _ _ _ _ s₁ (mkF m 8 #[vr d, vi (Int32.ofNat xs.length)] [(.int ((Int32.toInt8 (XT.ushr ((Int32.ofNat xs.length) - (Int32.ofNat (2 * xs.length))) (31 : Int32))).toInt32))])
  exact Fin.leaveN X0 e0 hlk (v := some (.int (nar .byte ((Int32.toInt8 (XT.ushr ((Int32.ofNat xs.length) - (Int32.ofNat (2 * xs.length))) (31 : Int32))).toInt32)))) (nvS hret) (by decide) (by decide) ⟨by rw [codU _ h0' hL], rfl, rfl⟩ (fun fs hr => retN X0 hx (t := .byte) hret (by simp) (hb hby d10_8) hr)
theorem rmIV (l : Launch) (Z : State) (a0 : Array Value) (hw : HW a0 Z) (n0 : Nat) (h0 : Heap) (O : Old Z n0 h0) (a b : Addr) (kb : ClassId) (xs : List Int32) (h0' : 0 < xs.length) (hL : xs.length ≤ 64) (hch : ∀ k, k < xs.length → ChI (xs.getD k 0)) (cs : Int32) (S_cs : Sta Z Z.heap "java/lang/String" "COMPACT_STRINGS" "Z" (.int cs)) (hcs : ¬ cs = 0) (VB : Arv Z h0 b kb .char (Int32.ofNat xs.length) (ivL xs) (.int (0 : Int32))) (A : Exa Z h0 a "java/lang/String") (F1 : Fld Z h0 a "java/lang/String" "coder" "B" (.int (0 : Int32))) (F2 : Fld Z h0 a "java/lang/String" "value" "[B" .null) (S_as : SAs Z) (S_hb : SHb Z) (S_lb : SLb Z) (na : n0 ≤ a) (nba : b ≠ a) :
    ConW FrameEnd l Z [] (⟨"java/lang/String", "<init>", "([CIILjava/lang/Void;)V"⟩ : MethodName) jdk_42_method_149_code 6 none ({ frames := 4, cells := 2, slots := 192, locals := 57 } : Room) #[(.ref a), (.ref b), (.int (0 : Int32)), (.int (Int32.ofNat xs.length)), .null] h0 (fun v h L => v = none ∧ Fr n0 L ∧ Keep h0 h [a] ∧ Exa Z h a "java/lang/String" ∧ ∃ co d kd, Fld Z h a "java/lang/String" "coder" "B" (.int co) ∧ Fld Z h a "java/lang/String" "value" "[B" (.ref d) ∧ BX Z h d kd co xs ∧ h0.size ≤ d) := by
  refine conOf (plainFor_of_name pn_java_lang_String) ?_
  intro p e s m below mth cc s₁ X0 hx hby hml hown hnm hret hlk hZ e0
  have N0 := Fr.nil n0
  have K0 := Keep.refl h0 ([a] : List Addr)
  refine Fin.came (castTop (t := _) (by first | (simp [entryFrame, mkF, argsToLocals, Value.category]; done) | rfl) (Steps.refl _) : Steps p.tables e below (s₁.setTop (entryFrame m #[(.ref a), (.ref b), (.int (0 : Int32)), (.int (Int32.ofNat xs.length)), .null] 6)) (s₁.setTop (mkF m 0 #[vr a, vr b, vi (0 : Int32), vi (Int32.ofNat xs.length), .val .null, .unset] []))) ?_
  refine .go (fun _ k => XS.aloadN X0.here hx rfl (hb hby d7_0) rfl rfl k) ?_
  obtain ⟨T11, X11, e11, st11⟩ := initO X0 hx hZ hown (hw _ w_20) (hw _ w_21) (hw _ w_22) e0 (g := (mkF m 1 #[vr a, vr b, vi (0 : Int32), vi (Int32.ofNat xs.length), .val .null, .unset] [(.ref a)])) rfl (by rw [hml]; rfl) rfl (hb hby d7_1) (by decide) (W := 0) (wk rfl rfl) (by decide)
  refine Fin.go st11 ?_
  show Fin _ _ _ _ _ _ _ _ T11 (mkF m 4 #[vr a, vr b, vi (0 : Int32), vi (Int32.ofNat xs.length), .val .null, .unset] [])
  refine .go (fun _ k => XS.iloadN X11.here hx rfl (hb hby d7_4) rfl k) ?_
  refine .go (fun _ k => XS.ifYes X11.here hx rfl (pc0 := 5) (pc' := 27) rfl (hb hby d7_5) rfl (XT.i0_ne_t (fun q => absurd (q.symm ▸ (on_l (i := 0) (k := xs.length) h0' (by omega)) : Int32.ofNat 0 < 0) (by decide))) (by decide) (by decide) k) ?_
  show Fin _ _ _ _ _ _ _ _ T11 (mkF m 27 #[vr a, vr b, vi (0 : Int32), vi (Int32.ofNat xs.length), .val .null, .unset] [])
  obtain ⟨T12, X12, e12, st12⟩ := getS2 X11 hx hZ hown (host := "") (Or.inl (hw _ w_5)) Via.refl e11 (S_cs.ext O.2) (g := (mkF m 27 #[vr a, vr b, vi (0 : Int32), vi (Int32.ofNat xs.length), .val .null, .unset] [])) rfl (hb hby d7_27)
  refine Fin.go st12 ?_
  show Fin _ _ _ _ _ _ _ _ T12 (mkF m 30 #[vr a, vr b, vi (0 : Int32), vi (Int32.ofNat xs.length), .val .null, .unset] [(.int cs)])
  refine .go (fun _ k => XS.ifNo X12.here hx rfl (hb hby d7_30) rfl (XT.i0_eq_f hcs) k) ?_
  show Fin _ _ _ _ _ _ _ _ T12 (mkF m 33 #[vr a, vr b, vi (0 : Int32), vi (Int32.ofNat xs.length), .val .null, .unset] [])
  refine .go (fun _ k => XS.aloadN X12.here hx rfl (hb hby d7_33) rfl rfl k) ?_
  refine .go (fun _ k => XS.iloadN X12.here hx rfl (hb hby d7_34) rfl k) ?_
  refine .go (fun _ k => XS.iloadN X12.here hx rfl (hb hby d7_35) rfl k) ?_
  obtain ⟨v13, T13, L13, X13, q13, st13⟩ := callSt X12 hx hZ hown (hw _ w_35) (hw _ w_36) (hw _ w_37) (hw _ w_38) (by decide) (W := 0) (rmCAG l Z a0 hw n0 h0 O b kb xs hL hch VB S_as S_hb S_lb) e12 (by decide) (by decide) (by decide) (by decide) (g := (mkF m 36 #[vr a, vr b, vi (0 : Int32), vi (Int32.ofNat xs.length), .val .null, .unset] [(.int (Int32.ofNat xs.length)), (.int (0 : Int32)), (.ref b)])) rfl (by rw [hml]; rfl) (argsL := [(.ref b), (.int (0 : Int32)), (.int (Int32.ofNat xs.length))]) (rest := []) (lenOf pd_oACIIcAB rfl) rfl (wk rfl rfl) (hb hby d7_36)
  obtain ⟨d13, kd13, rfl, Nq13, Kq13, zd13, hd⟩ := q13
  have N13 := Fr.app N0 Nq13
  have O13 := O.keep Kq13 all0
  have K13 := K0.trans Kq13 all0
  refine Fin.go st13 ?_
  have nzd13 : n0 ≤ d13 := Nat.le_trans (by have := O.1; have := O.2.1; omega) zd13
  have hzd13 : h0.size ≤ d13 := Nat.le_trans K0.1 zd13
  rcases hd with ⟨hall, V1⟩ | ⟨hex, V1⟩
  · show Fin _ _ _ _ _ _ _ _ T13 (mkF m 39 #[vr a, vr b, vi (0 : Int32), vi (Int32.ofNat xs.length), .val .null, .unset] [(.ref d13)])
    refine .go (fun _ k => XS.astore X13.here hx rfl (hb hby d7_39) rfl rfl (l' := #[vr a, vr b, vi (0 : Int32), vi (Int32.ofNat xs.length), .val .null, vr d13]) rfl k) ?_
    refine .go (fun _ k => XS.aloadN X13.here hx rfl (hb hby d7_41) rfl rfl k) ?_
    refine .go (fun _ k => XS.aload X13.here hx rfl (hb hby d7_42) rfl rfl k) ?_
    refine .go (fun _ k => XS.iloadN X13.here hx rfl (hb hby d7_44) rfl k) ?_
    show Fin _ _ _ _ _ _ _ _ T13 (mkF m 45 #[vr a, vr b, vi (0 : Int32), vi (Int32.ofNat xs.length), .val .null, vr d13] [(.int (Int32.ofNat xs.length)), (.ref d13), (.ref a)])
    obtain ⟨v14, T14, L14, X14, q14, st14⟩ := callSt X13 hx hZ hown (hw _ w_42) (hw _ w_43) (hw _ w_37) (hw _ w_44) (by decide) (W := 1) (rmCodL l Z a0 hw n0 T13.heap O13 d13 kd13 xs h0' hL V1) (rfl : T13.heap = T13.heap) (by decide) (by decide) (by decide) (by decide) (g := (mkF m 45 #[vr a, vr b, vi (0 : Int32), vi (Int32.ofNat xs.length), .val .null, vr d13] [(.int (Int32.ofNat xs.length)), (.ref d13), (.ref a)])) rfl (by rw [hml]; rfl) (argsL := [(.ref d13), (.int (Int32.ofNat xs.length))]) (rest := [(.ref a)]) (lenOf pd_oABIcB rfl) rfl (wk rfl rfl) (hb hby d7_45)
    obtain ⟨rfl, e14, rfl⟩ := q14
    have N14 := Fr.app N13 (Fr.nil n0)
    refine Fin.go st14 ?_
    show Fin _ _ _ _ _ _ _ _ T14 (mkF m 48 #[vr a, vr b, vi (0 : Int32), vi (Int32.ofNat xs.length), .val .null, vr d13] [(.int (0 : Int32)), (.ref a)])
    obtain ⟨T15, h15, X15, e15, W15, st15⟩ := putF X14 hx hZ hown (host := "") (Or.inl (hw _ w_25)) Via.refl e14 (F1.keep Kq13 nin0) (A.keep Kq13) (Or.inr ⟨(hw _ w_26), rfl, hnm⟩) (hw _ w_11) (ty := .byte) (by decide) rfl rfl (g := (mkF m 48 #[vr a, vr b, vi (0 : Int32), vi (Int32.ofNat xs.length), .val .null, vr d13] [(.int (0 : Int32)), (.ref a)])) rfl rfl (hb hby d7_48)
    refine Fin.go st15 ?_
    have N15 := Fr.snoc X15 N14 na
    have O15 := O13.wr W15 na
    have K15 := K13.wr W15 (Or.inl (List.mem_of_getElem? (i := 0) rfl))
    have F15_a_value := ((F2.keep Kq13 nin0).other W15 (Or.inr (slot_ne (Or.inr (hw _ w_24)) (Or.inr (hw _ w_26)) (by decide) (t := (.array .byte)) (t' := .byte) (by decide) (by decide))))
    have V15_d13 := (V1.other W15 (Ne.symm (Nat.ne_of_lt (Nat.lt_of_lt_of_le F2.lt zd13))))
    show Fin _ _ _ _ _ _ _ _ T15 (mkF m 51 #[vr a, vr b, vi (0 : Int32), vi (Int32.ofNat xs.length), .val .null, vr d13] [])
    refine .go (fun _ k => XS.aloadN X15.here hx rfl (hb hby d7_51) rfl rfl k) ?_
    refine .go (fun _ k => XS.aload X15.here hx rfl (hb hby d7_52) rfl rfl k) ?_
    obtain ⟨T16, h16, X16, e16, W16, st16⟩ := putF X15 hx hZ hown (host := "") (Or.inl (hw _ w_23)) Via.refl e15 F15_a_value ((A.keep Kq13).wr W15) (Or.inr ⟨(hw _ w_24), rfl, hnm⟩) (hw _ w_11) (ty := (.array .byte)) (by decide) rfl rfl (g := (mkF m 54 #[vr a, vr b, vi (0 : Int32), vi (Int32.ofNat xs.length), .val .null, vr d13] [(.ref d13), (.ref a)])) rfl rfl (hb hby d7_54)
    refine Fin.go st16 ?_
    have N16 := Fr.snoc X16 N15 na
    have O16 := O15.wr W16 na
    have K16 := K15.wr W16 (Or.inl (List.mem_of_getElem? (i := 0) rfl))
    have F16_a_coder := (((F1.keep Kq13 nin0).same W15).other W16 (Or.inr (slot_ne (Or.inr (hw _ w_26)) (Or.inr (hw _ w_24)) (by decide) (t := .byte) (t' := (.array .byte)) (by decide) (by decide))))
    have V16_d13 := (V15_d13.other W16 (Ne.symm (Nat.ne_of_lt (Nat.lt_of_lt_of_le F2.lt zd13))))
    show Fin _ _ _ _ _ _ _ _ T16 (mkF m 57 #[vr a, vr b, vi (0 : Int32), vi (Int32.ofNat xs.length), .val .null, vr d13] [])
    exact Fin.leaveN X16 e16 hlk (v := none) (fun _ => rfl) (by decide) (by decide) ⟨rfl, N16, K16, (((A.keep Kq13).wr W15).wr W16), (0 : Int32), d13, kd13, F16_a_coder, (F15_a_value.same W16), Or.inl ⟨rfl, hall, V16_d13⟩, hzd13⟩ (fun fs hr => X16.returnOut hx hret (hb hby d7_57) hr)
  · show Fin _ _ _ _ _ _ _ _ T13 (mkF m 39 #[vr a, vr b, vi (0 : Int32), vi (Int32.ofNat xs.length), .val .null, .unset] [(.ref d13)])
    refine .go (fun _ k => XS.astore X13.here hx rfl (hb hby d7_39) rfl rfl (l' := #[vr a, vr b, vi (0 : Int32), vi (Int32.ofNat xs.length), .val .null, vr d13]) rfl k) ?_
    refine .go (fun _ k => XS.aloadN X13.here hx rfl (hb hby d7_41) rfl rfl k) ?_
    refine .go (fun _ k => XS.aload X13.here hx rfl (hb hby d7_42) rfl rfl k) ?_
    refine .go (fun _ k => XS.iloadN X13.here hx rfl (hb hby d7_44) rfl k) ?_
    show Fin _ _ _ _ _ _ _ _ T13 (mkF m 45 #[vr a, vr b, vi (0 : Int32), vi (Int32.ofNat xs.length), .val .null, vr d13] [(.int (Int32.ofNat xs.length)), (.ref d13), (.ref a)])
    obtain ⟨v17, T17, L17, X17, q17, st17⟩ := callSt X13 hx hZ hown (hw _ w_42) (hw _ w_43) (hw _ w_37) (hw _ w_44) (by decide) (W := 1) (rmCodU l Z a0 hw n0 T13.heap O13 d13 kd13 xs h0' hL V1) (rfl : T13.heap = T13.heap) (by decide) (by decide) (by decide) (by decide) (g := (mkF m 45 #[vr a, vr b, vi (0 : Int32), vi (Int32.ofNat xs.length), .val .null, vr d13] [(.int (Int32.ofNat xs.length)), (.ref d13), (.ref a)])) rfl (by rw [hml]; rfl) (argsL := [(.ref d13), (.int (Int32.ofNat xs.length))]) (rest := [(.ref a)]) (lenOf pd_oABIcB rfl) rfl (wk rfl rfl) (hb hby d7_45)
    obtain ⟨rfl, e17, rfl⟩ := q17
    have N17 := Fr.app N13 (Fr.nil n0)
    refine Fin.go st17 ?_
    show Fin _ _ _ _ _ _ _ _ T17 (mkF m 48 #[vr a, vr b, vi (0 : Int32), vi (Int32.ofNat xs.length), .val .null, vr d13] [(.int (1 : Int32)), (.ref a)])
    obtain ⟨T18, h18, X18, e18, W18, st18⟩ := putF X17 hx hZ hown (host := "") (Or.inl (hw _ w_25)) Via.refl e17 (F1.keep Kq13 nin0) (A.keep Kq13) (Or.inr ⟨(hw _ w_26), rfl, hnm⟩) (hw _ w_11) (ty := .byte) (by decide) rfl rfl (g := (mkF m 48 #[vr a, vr b, vi (0 : Int32), vi (Int32.ofNat xs.length), .val .null, vr d13] [(.int (1 : Int32)), (.ref a)])) rfl rfl (hb hby d7_48)
    refine Fin.go st18 ?_
    have N18 := Fr.snoc X18 N17 na
    have O18 := O13.wr W18 na
    have K18 := K13.wr W18 (Or.inl (List.mem_of_getElem? (i := 0) rfl))
    have F18_a_value := ((F2.keep Kq13 nin0).other W18 (Or.inr (slot_ne (Or.inr (hw _ w_24)) (Or.inr (hw _ w_26)) (by decide) (t := (.array .byte)) (t' := .byte) (by decide) (by decide))))
    have V18_d13 := (V1.other W18 (Ne.symm (Nat.ne_of_lt (Nat.lt_of_lt_of_le F2.lt zd13))))
    show Fin _ _ _ _ _ _ _ _ T18 (mkF m 51 #[vr a, vr b, vi (0 : Int32), vi (Int32.ofNat xs.length), .val .null, vr d13] [])
    refine .go (fun _ k => XS.aloadN X18.here hx rfl (hb hby d7_51) rfl rfl k) ?_
    refine .go (fun _ k => XS.aload X18.here hx rfl (hb hby d7_52) rfl rfl k) ?_
    obtain ⟨T19, h19, X19, e19, W19, st19⟩ := putF X18 hx hZ hown (host := "") (Or.inl (hw _ w_23)) Via.refl e18 F18_a_value ((A.keep Kq13).wr W18) (Or.inr ⟨(hw _ w_24), rfl, hnm⟩) (hw _ w_11) (ty := (.array .byte)) (by decide) rfl rfl (g := (mkF m 54 #[vr a, vr b, vi (0 : Int32), vi (Int32.ofNat xs.length), .val .null, vr d13] [(.ref d13), (.ref a)])) rfl rfl (hb hby d7_54)
    refine Fin.go st19 ?_
    have N19 := Fr.snoc X19 N18 na
    have O19 := O18.wr W19 na
    have K19 := K18.wr W19 (Or.inl (List.mem_of_getElem? (i := 0) rfl))
    have F19_a_coder := (((F1.keep Kq13 nin0).same W18).other W19 (Or.inr (slot_ne (Or.inr (hw _ w_26)) (Or.inr (hw _ w_24)) (by decide) (t := .byte) (t' := (.array .byte)) (by decide) (by decide))))
    have V19_d13 := (V18_d13.other W19 (Ne.symm (Nat.ne_of_lt (Nat.lt_of_lt_of_le F2.lt zd13))))
    show Fin _ _ _ _ _ _ _ _ T19 (mkF m 57 #[vr a, vr b, vi (0 : Int32), vi (Int32.ofNat xs.length), .val .null, vr d13] [])
    exact Fin.leaveN X19 e19 hlk (v := none) (fun _ => rfl) (by decide) (by decide) ⟨rfl, N19, K19, (((A.keep Kq13).wr W18).wr W19), (1 : Int32), d13, kd13, F19_a_coder, (F18_a_value.same W19), Or.inr ⟨rfl, nLat hex, V19_d13⟩, hzd13⟩ (fun fs hr => X19.returnOut hx hret (hb hby d7_57) hr)
theorem rmIG (l : Launch) (Z : State) (a0 : Array Value) (hw : HW a0 Z) (n0 : Nat) (h0 : Heap) (O : Old Z n0 h0) (a b : Addr) (kb : ClassId) (xs : List Int32) (h0' : 0 < xs.length) (hL : xs.length ≤ 64) (hch : ∀ k, k < xs.length → ChI (xs.getD k 0)) (cs : Int32) (S_cs : Sta Z Z.heap "java/lang/String" "COMPACT_STRINGS" "Z" (.int cs)) (hcs : ¬ cs = 0) (VB : Arv Z h0 b kb .char (Int32.ofNat xs.length) (ivL xs) (.int (0 : Int32))) (A : Exa Z h0 a "java/lang/String") (F1 : Fld Z h0 a "java/lang/String" "coder" "B" (.int (0 : Int32))) (F2 : Fld Z h0 a "java/lang/String" "value" "[B" .null) (S_as : SAs Z) (S_hb : SHb Z) (S_lb : SLb Z) (na : n0 ≤ a) (nba : b ≠ a) :
    ConW FrameEnd l Z [] (⟨"java/lang/String", "<init>", "([C)V"⟩ : MethodName) jdk_42_method_3_code 2 none ({ frames := 5, cells := 2, slots := 192, locals := 74 } : Room) #[(.ref a), (.ref b)] h0 (fun v h L => v = none ∧ Fr n0 L ∧ Keep h0 h [a] ∧ Exa Z h a "java/lang/String" ∧ ∃ co d kd, Fld Z h a "java/lang/String" "coder" "B" (.int co) ∧ Fld Z h a "java/lang/String" "value" "[B" (.ref d) ∧ BX Z h d kd co xs ∧ h0.size ≤ d) := by
  refine conOf (plainFor_of_name pn_java_lang_String) ?_
  intro p e s m below mth cc s₁ X0 hx hby hml hown hnm hret hlk hZ e0
  have N0 := Fr.nil n0
  have K0 := Keep.refl h0 ([a] : List Addr)
  refine Fin.came (castTop (t := _) (by first | (simp [entryFrame, mkF, argsToLocals, Value.category]; done) | rfl) (Steps.refl _) : Steps p.tables e below (s₁.setTop (entryFrame m #[(.ref a), (.ref b)] 2)) (s₁.setTop (mkF m 0 #[vr a, vr b] []))) ?_
  refine .go (fun _ k => XS.aloadN X0.here hx rfl (hb hby d6_0) rfl rfl k) ?_
  refine .go (fun _ k => XS.aloadN X0.here hx rfl (hb hby d6_1) rfl rfl k) ?_
  refine .go (fun _ k => XS.iconst X0.here hx rfl (hb hby d6_2) k) ?_
  refine .go (fun _ k => XS.aloadN X0.here hx rfl (hb hby d6_3) rfl rfl k) ?_
  show Fin _ _ _ _ _ _ _ _ s₁ (mkF m 4 #[vr a, vr b] [(.ref b), (.int (0 : Int32)), (.ref b), (.ref a)])
  obtain ⟨cz11, B11, q11, S11, M11, H11, G11⟩ := id VB
  refine Fin.go (fun _ k => X0.arraylength hx (by rw [e0]; exact B11.1) (State.isArrayOf_alike hZ.alike B11.2.1) (g := (mkF m 4 #[vr a, vr b] [(.ref b), (.int (0 : Int32)), (.ref b), (.ref a)])) rfl rfl (hb hby d6_4) _ k) ?_
  rw [len_of S11 M11]
  show Fin _ _ _ _ _ _ _ _ s₁ (mkF m 5 #[vr a, vr b] [(.int (Int32.ofNat xs.length)), (.int (0 : Int32)), (.ref b), (.ref a)])
  refine .go (fun _ k => XS.aconstNull X0.here hx rfl (hb hby d6_5) k) ?_
  obtain ⟨v12, T12, L12, X12, q12, st12⟩ := callCt X0 hx hZ (y := (⟨"java/lang/String", "<init>", "([CIILjava/lang/Void;)V"⟩ : MethodName)) rfl hown (hw _ w_32) (hw _ w_33) (hw _ w_3) (hw _ w_34) (by decide) (W := 0) (rmIV l Z a0 hw n0 h0 O a b kb xs h0' hL hch cs S_cs hcs VB A F1 F2 S_as S_hb S_lb na nba) e0 (by decide) (by decide) (by decide) (by decide) (g := (mkF m 6 #[vr a, vr b] [.null, (.int (Int32.ofNat xs.length)), (.int (0 : Int32)), (.ref b), (.ref a)])) rfl (by rw [hml]; rfl) (a := a) (argsL := [(.ref b), (.int (0 : Int32)), (.int (Int32.ofNat xs.length)), .null]) (rest := []) (lenOf pd_oACIILjava_lang_Void_cV rfl) rfl (wk rfl rfl) (hb hby d6_6)
  obtain ⟨rfl, Nq12, Kq12, A12, rest12⟩ := q12
  have N12 := Fr.app N0 Nq12
  have O12 := O.keep Kq12 (allS na all0)
  have K12 := K0.trans Kq12 (allS (Or.inl (List.mem_of_getElem? (i := 0) rfl)) all0)
  refine Fin.go st12 ?_
  show Fin _ _ _ _ _ _ _ _ T12 (mkF m 9 #[vr a, vr b] [])
  exact Fin.leaveN X12 (rfl : T12.heap = T12.heap) hlk (v := none) (fun _ => rfl) (by decide) (by decide) ⟨rfl, N12, K12, A12, rest12⟩ (fun fs hr => X12.returnOut hx hret (hb hby d6_9) hr)
theorem rmCo0 (l : Launch) (Z : State) (a0 : Array Value) (hw : HW a0 Z) (n0 : Nat) (h0 : Heap) (O : Old Z n0 h0) (a : Addr) (F1 : Fld Z h0 a "java/lang/String" "coder" "B" (.int (0 : Int32))) (cs : Int32) (S_cs : Sta Z Z.heap "java/lang/String" "COMPACT_STRINGS" "Z" (.int cs)) (hcs : ¬ cs = 0) :
    ConW FrameEnd l Z [] (⟨"java/lang/String", "coder", "()B"⟩ : MethodName) jdk_42_method_152_code 1 (some .byte) ({ frames := 0, cells := 0, slots := 0, locals := 0 } : Room) #[(.ref a)] h0 (Pure h0 (some (.int (0 : Int32)))) := by
  refine conOf (plainFor_of_name pn_java_lang_String) ?_
  intro p e s m below mth cc s₁ X0 hx hby hml hown hnm hret hlk hZ e0
  have N0 := Fr.nil n0
  refine Fin.came (castTop (t := _) (by first | (simp [entryFrame, mkF, argsToLocals, Value.category]; done) | rfl) (Steps.refl _) : Steps p.tables e below (s₁.setTop (entryFrame m #[(.ref a)] 1)) (s₁.setTop (mkF m 0 #[vr a] []))) ?_
  obtain ⟨T11, X11, e11, st11⟩ := getS2 X0 hx hZ hown (host := "") (Or.inl (hw _ w_5)) Via.refl e0 (S_cs.ext O.2) (g := (mkF m 0 #[vr a] [])) rfl (hb hby d17_0)
  refine Fin.go st11 ?_
  show Fin _ _ _ _ _ _ _ _ T11 (mkF m 3 #[vr a] [(.int cs)])
  refine .go (fun _ k => XS.ifNo X11.here hx rfl (hb hby d17_3) rfl (XT.i0_eq_f hcs) k) ?_
  show Fin _ _ _ _ _ _ _ _ T11 (mkF m 6 #[vr a] [])
  refine .go (fun _ k => XS.aloadN X11.here hx rfl (hb hby d17_6) rfl rfl k) ?_
  obtain ⟨T12, X12, e12, st12⟩ := getF X11 hx hZ hown (host := "") (Or.inl (hw _ w_25)) Via.refl e11 F1 (g := (mkF m 7 #[vr a] [(.ref a)])) rfl rfl (hb hby d17_7)
  refine Fin.go st12 ?_
  show Fin _ _ _ _ _ _ _ _ T12 (mkF m 10 #[vr a] [(.int (0 : Int32))])
  refine .go (fun _ k => XS.goto X12.here hx rfl (pc0 := 10) (pc' := 14) rfl (hb hby d17_10) (by decide) (by decide) k) ?_
  exact Fin.leaveN X12 e12 hlk (v := some (.int (nar .byte (0 : Int32)))) (nvS hret) (by decide) (by decide) ⟨by decide +kernel, rfl, rfl⟩ (fun fs hr => retN X12 hx (t := .byte) hret (by simp) (hb hby d17_14) hr)
theorem rmCo1 (l : Launch) (Z : State) (a0 : Array Value) (hw : HW a0 Z) (n0 : Nat) (h0 : Heap) (O : Old Z n0 h0) (a : Addr) (F1 : Fld Z h0 a "java/lang/String" "coder" "B" (.int (1 : Int32))) (cs : Int32) (S_cs : Sta Z Z.heap "java/lang/String" "COMPACT_STRINGS" "Z" (.int cs)) (hcs : ¬ cs = 0) :
    ConW FrameEnd l Z [] (⟨"java/lang/String", "coder", "()B"⟩ : MethodName) jdk_42_method_152_code 1 (some .byte) ({ frames := 0, cells := 0, slots := 0, locals := 0 } : Room) #[(.ref a)] h0 (Pure h0 (some (.int (1 : Int32)))) := by
  refine conOf (plainFor_of_name pn_java_lang_String) ?_
  intro p e s m below mth cc s₁ X0 hx hby hml hown hnm hret hlk hZ e0
  have N0 := Fr.nil n0
  refine Fin.came (castTop (t := _) (by first | (simp [entryFrame, mkF, argsToLocals, Value.category]; done) | rfl) (Steps.refl _) : Steps p.tables e below (s₁.setTop (entryFrame m #[(.ref a)] 1)) (s₁.setTop (mkF m 0 #[vr a] []))) ?_
  obtain ⟨T11, X11, e11, st11⟩ := getS2 X0 hx hZ hown (host := "") (Or.inl (hw _ w_5)) Via.refl e0 (S_cs.ext O.2) (g := (mkF m 0 #[vr a] [])) rfl (hb hby d17_0)
  refine Fin.go st11 ?_
  show Fin _ _ _ _ _ _ _ _ T11 (mkF m 3 #[vr a] [(.int cs)])
  refine .go (fun _ k => XS.ifNo X11.here hx rfl (hb hby d17_3) rfl (XT.i0_eq_f hcs) k) ?_
  show Fin _ _ _ _ _ _ _ _ T11 (mkF m 6 #[vr a] [])
  refine .go (fun _ k => XS.aloadN X11.here hx rfl (hb hby d17_6) rfl rfl k) ?_
  obtain ⟨T12, X12, e12, st12⟩ := getF X11 hx hZ hown (host := "") (Or.inl (hw _ w_25)) Via.refl e11 F1 (g := (mkF m 7 #[vr a] [(.ref a)])) rfl rfl (hb hby d17_7)
  refine Fin.go st12 ?_
  show Fin _ _ _ _ _ _ _ _ T12 (mkF m 10 #[vr a] [(.int (1 : Int32))])
  refine .go (fun _ k => XS.goto X12.here hx rfl (pc0 := 10) (pc' := 14) rfl (hb hby d17_10) (by decide) (by decide) k) ?_
  exact Fin.leaveN X12 e12 hlk (v := some (.int (nar .byte (1 : Int32)))) (nvS hret) (by decide) (by decide) ⟨by decide +kernel, rfl, rfl⟩ (fun fs hr => retN X12 hx (t := .byte) hret (by simp) (hb hby d17_14) hr)
theorem rmLen0 (l : Launch) (Z : State) (a0 : Array Value) (hw : HW a0 Z) (n0 : Nat) (h0 : Heap) (O : Old Z n0 h0) (a d : Addr) (kd : ClassId) (xs : List Int32) (hL : xs.length ≤ 64) (A : Exa Z h0 a "java/lang/String") (F1 : Fld Z h0 a "java/lang/String" "coder" "B" (.int (0 : Int32))) (F2 : Fld Z h0 a "java/lang/String" "value" "[B" (.ref d)) (VD : Arv Z h0 d kd .byte (Int32.ofNat xs.length) (ivL (xs.map b8f)) (.int (0 : Int32))) (cs : Int32) (S_cs : Sta Z Z.heap "java/lang/String" "COMPACT_STRINGS" "Z" (.int cs)) (hcs : ¬ cs = 0) :
    ConW FrameEnd l Z [] (⟨"java/lang/String", "length", "()I"⟩ : MethodName) jdk_42_method_54_code 1 (some .int) ({ frames := 1, cells := 0, slots := 0, locals := 13 } : Room) #[(.ref a)] h0 (Pure h0 (some (.int (Int32.ofNat xs.length)))) := by
  refine conOf (plainFor_of_name pn_java_lang_String) ?_
  intro p e s m below mth cc s₁ X0 hx hby hml hown hnm hret hlk hZ e0
  have N0 := Fr.nil n0
  refine Fin.came (castTop (t := _) (by first | (simp [entryFrame, mkF, argsToLocals, Value.category]; done) | rfl) (Steps.refl _) : Steps p.tables e below (s₁.setTop (entryFrame m #[(.ref a)] 1)) (s₁.setTop (mkF m 0 #[vr a] []))) ?_
  refine .go (fun _ k => XS.aloadN X0.here hx rfl (hb hby d16_0) rfl rfl k) ?_
  obtain ⟨T11, X11, e11, st11⟩ := getF X0 hx hZ hown (host := "") (Or.inl (hw _ w_23)) Via.refl e0 F2 (g := (mkF m 1 #[vr a] [(.ref a)])) rfl rfl (hb hby d16_1)
  refine Fin.go st11 ?_
  show Fin _ _ _ _ _ _ _ _ T11 (mkF m 4 #[vr a] [(.ref d)])
  obtain ⟨cz12, B12, q12, S12, M12, H12, G12⟩ := id VD
  refine Fin.go (fun _ k => X11.arraylength hx (by rw [e11]; exact B12.1) (State.isArrayOf_alike hZ.alike B12.2.1) (g := (mkF m 4 #[vr a] [(.ref d)])) rfl rfl (hb hby d16_4) _ k) ?_
  rw [len_of S12 M12]
  show Fin _ _ _ _ _ _ _ _ T11 (mkF m 5 #[vr a] [(.int (Int32.ofNat xs.length))])
  refine .go (fun _ k => XS.aloadN X11.here hx rfl (hb hby d16_5) rfl rfl k) ?_
  obtain ⟨v13, T13, L13, X13, q13, st13⟩ := callVt X11 hx hZ (y := (⟨"java/lang/String", "coder", "()B"⟩ : MethodName)) hown (hw _ w_88) (hw _ w_89) (hw _ w_91) (hw _ w_90) (hw _ w_3) (hw _ w_92) (by decide) (W := 1) (rmCo0 l Z a0 hw n0 h0 O a F1 cs S_cs hcs) e11 A (by decide) (by decide) (by decide) (by decide) (g := (mkF m 6 #[vr a] [(.ref a), (.int (Int32.ofNat xs.length))])) rfl (by rw [hml]; rfl) (argsL := []) (rest := [(.int (Int32.ofNat xs.length))]) (lenOf pd_ocB rfl) rfl (wk rfl rfl) (hb hby d16_6)
  obtain ⟨rfl, e13, rfl⟩ := q13
  have N13 := Fr.app N0 (Fr.nil n0)
  refine Fin.go st13 ?_
  show Fin _ _ _ _ _ _ _ _ T13 (mkF m 9 #[vr a] [(.int (0 : Int32)), (.int (Int32.ofNat xs.length))])
  refine .go (fun _ k => XT.ishr X13.here hx rfl (hb hby d16_9) rfl k) ?_
  exact Fin.leaveN X13 e13 hlk (v := some (.int ((Int32.ofNat xs.length) >>> ((0 : Int32) &&& 31)))) (nvS hret) (by decide) (by decide) ⟨by rw [shr0 _ hL], rfl, rfl⟩ (fun fs hr => retI X13 hx hret (hb hby d16_10) hr)
theorem rmLen1 (l : Launch) (Z : State) (a0 : Array Value) (hw : HW a0 Z) (n0 : Nat) (h0 : Heap) (O : Old Z n0 h0) (a d : Addr) (kd : ClassId) (xs : List Int32) (hL : xs.length ≤ 64) (A : Exa Z h0 a "java/lang/String") (F1 : Fld Z h0 a "java/lang/String" "coder" "B" (.int (1 : Int32))) (F2 : Fld Z h0 a "java/lang/String" "value" "[B" (.ref d)) (VD : Arv Z h0 d kd .byte (Int32.ofNat (2 * xs.length)) (ivL (u8 xs)) (.int (0 : Int32))) (cs : Int32) (S_cs : Sta Z Z.heap "java/lang/String" "COMPACT_STRINGS" "Z" (.int cs)) (hcs : ¬ cs = 0) :
    ConW FrameEnd l Z [] (⟨"java/lang/String", "length", "()I"⟩ : MethodName) jdk_42_method_54_code 1 (some .int) ({ frames := 1, cells := 0, slots := 0, locals := 13 } : Room) #[(.ref a)] h0 (Pure h0 (some (.int (Int32.ofNat xs.length)))) := by
  refine conOf (plainFor_of_name pn_java_lang_String) ?_
  intro p e s m below mth cc s₁ X0 hx hby hml hown hnm hret hlk hZ e0
  have N0 := Fr.nil n0
  refine Fin.came (castTop (t := _) (by first | (simp [entryFrame, mkF, argsToLocals, Value.category]; done) | rfl) (Steps.refl _) : Steps p.tables e below (s₁.setTop (entryFrame m #[(.ref a)] 1)) (s₁.setTop (mkF m 0 #[vr a] []))) ?_
  refine .go (fun _ k => XS.aloadN X0.here hx rfl (hb hby d16_0) rfl rfl k) ?_
  obtain ⟨T11, X11, e11, st11⟩ := getF X0 hx hZ hown (host := "") (Or.inl (hw _ w_23)) Via.refl e0 F2 (g := (mkF m 1 #[vr a] [(.ref a)])) rfl rfl (hb hby d16_1)
  refine Fin.go st11 ?_
  show Fin _ _ _ _ _ _ _ _ T11 (mkF m 4 #[vr a] [(.ref d)])
  obtain ⟨cz12, B12, q12, S12, M12, H12, G12⟩ := id VD
  refine Fin.go (fun _ k => X11.arraylength hx (by rw [e11]; exact B12.1) (State.isArrayOf_alike hZ.alike B12.2.1) (g := (mkF m 4 #[vr a] [(.ref d)])) rfl rfl (hb hby d16_4) _ k) ?_
  rw [len_of S12 M12]
  show Fin _ _ _ _ _ _ _ _ T11 (mkF m 5 #[vr a] [(.int (Int32.ofNat (2 * xs.length)))])
  refine .go (fun _ k => XS.aloadN X11.here hx rfl (hb hby d16_5) rfl rfl k) ?_
  obtain ⟨v13, T13, L13, X13, q13, st13⟩ := callVt X11 hx hZ (y := (⟨"java/lang/String", "coder", "()B"⟩ : MethodName)) hown (hw _ w_88) (hw _ w_89) (hw _ w_91) (hw _ w_90) (hw _ w_3) (hw _ w_92) (by decide) (W := 1) (rmCo1 l Z a0 hw n0 h0 O a F1 cs S_cs hcs) e11 A (by decide) (by decide) (by decide) (by decide) (g := (mkF m 6 #[vr a] [(.ref a), (.int (Int32.ofNat (2 * xs.length)))])) rfl (by rw [hml]; rfl) (argsL := []) (rest := [(.int (Int32.ofNat (2 * xs.length)))]) (lenOf pd_ocB rfl) rfl (wk rfl rfl) (hb hby d16_6)
  obtain ⟨rfl, e13, rfl⟩ := q13
  have N13 := Fr.app N0 (Fr.nil n0)
  refine Fin.go st13 ?_
  show Fin _ _ _ _ _ _ _ _ T13 (mkF m 9 #[vr a] [(.int (1 : Int32)), (.int (Int32.ofNat (2 * xs.length)))])
  refine .go (fun _ k => XT.ishr X13.here hx rfl (hb hby d16_9) rfl k) ?_
  exact Fin.leaveN X13 e13 hlk (v := some (.int ((Int32.ofNat (2 * xs.length)) >>> ((1 : Int32) &&& 31)))) (nvS hret) (by decide) (by decide) ⟨by rw [shr1 _ hL], rfl, rfl⟩ (fun fs hr => retI X13 hx hret (hb hby d16_10) hr)
theorem rmCoX (l : Launch) (Z : State) (a0 : Array Value) (hw : HW a0 Z) (n0 : Nat) (h0 : Heap) (O : Old Z n0 h0) (a : Addr) (co : Int32) (xs : List Int32) (B : Nat) (F : SX Z h0 a co xs B) (cs : Int32) (S_cs : Sta Z Z.heap "java/lang/String" "COMPACT_STRINGS" "Z" (.int cs)) (hcs : ¬ cs = 0) : Con FrameEnd l Z (⟨"java/lang/String", "coder", "()B"⟩ : MethodName) jdk_42_method_152_code 1 (some .byte) ({ frames := 0, cells := 0, slots := 0, locals := 0 } : Room) #[(.ref a)] h0 (Pure h0 (some (.int co))) := by
  obtain ⟨-, -, A, F1, d, kd, -, F2, hB⟩ := F
  rcases hB with ⟨rfl, -, VD⟩ | ⟨rfl, -, VD⟩
  · exact rmCo0 l Z a0 hw n0 h0 O a F1 cs S_cs hcs
  · exact rmCo1 l Z a0 hw n0 h0 O a F1 cs S_cs hcs
theorem rmLenX (l : Launch) (Z : State) (a0 : Array Value) (hw : HW a0 Z) (n0 : Nat) (h0 : Heap) (O : Old Z n0 h0) (a : Addr) (co : Int32) (xs : List Int32) (B : Nat) (hL : xs.length ≤ 64) (F : SX Z h0 a co xs B) (cs : Int32) (S_cs : Sta Z Z.heap "java/lang/String" "COMPACT_STRINGS" "Z" (.int cs)) (hcs : ¬ cs = 0) : Con FrameEnd l Z (⟨"java/lang/String", "length", "()I"⟩ : MethodName) jdk_42_method_54_code 1 (some .int) ({ frames := 1, cells := 0, slots := 0, locals := 13 } : Room) #[(.ref a)] h0 (Pure h0 (some (.int (Int32.ofNat xs.length)))) := by
  obtain ⟨-, -, A, F1, d, kd, -, F2, hB⟩ := F
  rcases hB with ⟨rfl, -, VD⟩ | ⟨rfl, -, VD⟩
  · exact rmLen0 l Z a0 hw n0 h0 O a d kd xs hL A F1 F2 VD cs S_cs hcs
  · exact rmLen1 l Z a0 hw n0 h0 O a d kd xs hL A F1 F2 VD cs S_cs hcs
theorem rmEqX0 (l : Launch) (Z : State) (a0 : Array Value) (hw : HW a0 Z) (n0 : Nat) (h0 : Heap) (O : Old Z n0 h0) (a b d1 d2 : Addr) (k1 k2 : ClassId) (xs : List Int32) (hL : xs.length ≤ 64) (cs : Int32) (S_cs : Sta Z Z.heap "java/lang/String" "COMPACT_STRINGS" "Z" (.int cs)) (hcs : ¬ cs = 0) (A : Exa Z h0 a "java/lang/String") (B : Exa Z h0 b "java/lang/String") (C1 : Fld Z h0 a "java/lang/String" "coder" "B" (.int (0 : Int32))) (C2 : Fld Z h0 b "java/lang/String" "coder" "B" (.int (0 : Int32))) (F1 : Fld Z h0 a "java/lang/String" "value" "[B" (.ref d1)) (F2 : Fld Z h0 b "java/lang/String" "value" "[B" (.ref d2)) (V1 : Arv Z h0 d1 k1 .byte (Int32.ofNat xs.length) (ivL (xs.map b8f)) (.int (0 : Int32))) (V2 : Arv Z h0 d2 k2 .byte (Int32.ofNat xs.length) (ivL (xs.map b8f)) (.int (0 : Int32))) :
    ConW FrameEnd l Z [] (⟨"java/lang/String", "equals", "(Ljava/lang/Object;)Z"⟩ : MethodName) jdk_42_method_66_code 3 (some .boolean) ({ frames := 1, cells := 0, slots := 0, locals := 14 } : Room) #[(.ref a), (.ref b)] h0 (Pure h0 (some (.int (1 : Int32)))) := by
  refine conOf (plainFor_of_name pn_java_lang_String) ?_
  intro p e s m below mth cc s₁ X0 hx hby hml hown hnm hret hlk hZ e0
  have N0 := Fr.nil n0
  refine Fin.came (castTop (t := _) (by first | (simp [entryFrame, mkF, argsToLocals, Value.category]; done) | rfl) (Steps.refl _) : Steps p.tables e below (s₁.setTop (entryFrame m #[(.ref a), (.ref b)] 3)) (s₁.setTop (mkF m 0 #[vr a, vr b, .unset] []))) ?_
  refine .go (fun _ k => XS.aloadN X0.here hx rfl (hb hby d44_0) rfl rfl k) ?_
  refine .go (fun _ k => XS.aloadN X0.here hx rfl (hb hby d44_1) rfl rfl k) ?_
  by_cases c2 : a = b
  · refine .go (fun _ k => XT.acmpNo X0.here hx rfl (hb hby d44_2) rfl rfl rfl (XT.aa_ne_f (congrArg Value.ref c2)) k) ?_
    show Fin _ _ _ _ _ _ _ _ s₁ (mkF m 5 #[vr a, vr b, .unset] [])
    refine .go (fun _ k => XS.iconst X0.here hx rfl (hb hby d44_5) k) ?_
    exact Fin.leaveN X0 e0 hlk (v := some (.int (nar .boolean (1 : Int32)))) (nvS hret) (by decide) (by decide) ⟨rfl, rfl, rfl⟩ (fun fs hr => retN X0 hx (t := .boolean) hret (by simp) (hb hby d44_6) hr)
  · refine .go (fun _ k => XT.acmpYes X0.here hx rfl (pc0 := 2) (pc' := 7) rfl (hb hby d44_2) rfl rfl rfl (XT.aa_ne_t (fun q => c2 (Value.ref.inj q))) (by decide) (by decide) k) ?_
    show Fin _ _ _ _ _ _ _ _ s₁ (mkF m 7 #[vr a, vr b, .unset] [])
    refine .go (fun _ k => XS.aloadN X0.here hx rfl (hb hby d44_7) rfl rfl k) ?_
    obtain ⟨T11, X11, e11, st11⟩ := instY X0 hx hZ hown (hw _ w_10) e0 (Ins.self B) (g := (mkF m 8 #[vr a, vr b, .unset] [(.ref b)])) rfl rfl (hb hby d44_8)
    refine Fin.go st11 ?_
    refine .go (fun _ k => XS.ifNo X11.here hx rfl (hb hby d44_11) rfl (XT.i0_eq_f (by decide)) k) ?_
    show Fin _ _ _ _ _ _ _ _ T11 (mkF m 14 #[vr a, vr b, .unset] [])
    refine .go (fun _ k => XS.aloadN X11.here hx rfl (hb hby d44_14) rfl rfl k) ?_
    obtain ⟨T12, X12, e12, st12⟩ := castY X11 hx hZ hown (hw _ w_10) e11 (Ins.self B) (g := (mkF m 15 #[vr a, vr b, .unset] [(.ref b)])) rfl rfl (hb hby d44_15)
    refine Fin.go st12 ?_
    refine .go (fun _ k => XS.astoreN X12.here hx rfl (hb hby d44_18) rfl rfl (l' := #[vr a, vr b, vr b]) rfl k) ?_
    obtain ⟨T13, X13, e13, st13⟩ := getS2 X12 hx hZ hown (host := "") (Or.inl (hw _ w_5)) Via.refl e12 (S_cs.ext O.2) (g := (mkF m 19 #[vr a, vr b, vr b] [])) rfl (hb hby d44_19)
    refine Fin.go st13 ?_
    show Fin _ _ _ _ _ _ _ _ T13 (mkF m 22 #[vr a, vr b, vr b] [(.int cs)])
    refine .go (fun _ k => XS.ifNo X13.here hx rfl (hb hby d44_22) rfl (XT.i0_eq_f hcs) k) ?_
    show Fin _ _ _ _ _ _ _ _ T13 (mkF m 25 #[vr a, vr b, vr b] [])
    refine .go (fun _ k => XS.aloadN X13.here hx rfl (hb hby d44_25) rfl rfl k) ?_
    obtain ⟨T14, X14, e14, st14⟩ := getF X13 hx hZ hown (host := "") (Or.inl (hw _ w_25)) Via.refl e13 C1 (g := (mkF m 26 #[vr a, vr b, vr b] [(.ref a)])) rfl rfl (hb hby d44_26)
    refine Fin.go st14 ?_
    show Fin _ _ _ _ _ _ _ _ T14 (mkF m 29 #[vr a, vr b, vr b] [(.int (0 : Int32))])
    refine .go (fun _ k => XS.aloadN X14.here hx rfl (hb hby d44_29) rfl rfl k) ?_
    obtain ⟨T15, X15, e15, st15⟩ := getF X14 hx hZ hown (host := "") (Or.inl (hw _ w_25)) Via.refl e14 C2 (g := (mkF m 30 #[vr a, vr b, vr b] [(.ref b), (.int (0 : Int32))])) rfl rfl (hb hby d44_30)
    refine Fin.go st15 ?_
    show Fin _ _ _ _ _ _ _ _ T15 (mkF m 33 #[vr a, vr b, vr b] [(.int (0 : Int32)), (.int (0 : Int32))])
    refine .go (fun _ k => XS.icmpNo X15.here hx rfl (hb hby d44_33) rfl (XT.ii_ne_f (by decide)) k) ?_
    show Fin _ _ _ _ _ _ _ _ T15 (mkF m 36 #[vr a, vr b, vr b] [])
    refine .go (fun _ k => XS.aloadN X15.here hx rfl (hb hby d44_36) rfl rfl k) ?_
    obtain ⟨T16, X16, e16, st16⟩ := getF X15 hx hZ hown (host := "") (Or.inl (hw _ w_23)) Via.refl e15 F1 (g := (mkF m 37 #[vr a, vr b, vr b] [(.ref a)])) rfl rfl (hb hby d44_37)
    refine Fin.go st16 ?_
    show Fin _ _ _ _ _ _ _ _ T16 (mkF m 40 #[vr a, vr b, vr b] [(.ref d1)])
    refine .go (fun _ k => XS.aloadN X16.here hx rfl (hb hby d44_40) rfl rfl k) ?_
    obtain ⟨T17, X17, e17, st17⟩ := getF X16 hx hZ hown (host := "") (Or.inl (hw _ w_23)) Via.refl e16 F2 (g := (mkF m 41 #[vr a, vr b, vr b] [(.ref b), (.ref d1)])) rfl rfl (hb hby d44_41)
    refine Fin.go st17 ?_
    show Fin _ _ _ _ _ _ _ _ T17 (mkF m 44 #[vr a, vr b, vr b] [(.ref d2), (.ref d1)])
    obtain ⟨v18, T18, L18, X18, q18, st18⟩ := callSt X17 hx hZ hown (hw _ w_241) (hw _ w_242) (hw _ w_8) (hw _ w_243) (by decide) (W := 0) (rmEqG l Z a0 hw n0 h0 O d1 d2 k1 k2 (xs.map b8f) (by rw [List.length_map]; omega) (by rw [List.length_map]; exact V1) (by rw [List.length_map]; exact V2)) e17 (by decide) (by decide) (by decide) (by decide) (g := (mkF m 44 #[vr a, vr b, vr b] [(.ref d2), (.ref d1)])) rfl (by rw [hml]; rfl) (argsL := [(.ref d1), (.ref d2)]) (rest := []) (lenOf pd_oABABcZ rfl) rfl (wk rfl rfl) (hb hby d44_44)
    obtain ⟨rfl, e18, rfl⟩ := q18
    have N18 := Fr.app N0 (Fr.nil n0)
    refine Fin.go st18 ?_
    show Fin _ _ _ _ _ _ _ _ T18 (mkF m 47 #[vr a, vr b, vr b] [(.int (1 : Int32))])
    refine .go (fun _ k => XS.ifNo X18.here hx rfl (hb hby d44_47) rfl (XT.i0_eq_f (by decide)) k) ?_
    show Fin _ _ _ _ _ _ _ _ T18 (mkF m 50 #[vr a, vr b, vr b] [])
    refine .go (fun _ k => XS.iconst X18.here hx rfl (hb hby d44_50) k) ?_
    refine .go (fun _ k => XS.goto X18.here hx rfl (pc0 := 51) (pc' := 55) rfl (hb hby d44_51) (by decide) (by decide) k) ?_
    exact Fin.leaveN X18 e18 hlk (v := some (.int (nar .boolean (1 : Int32)))) (nvS hret) (by decide) (by decide) ⟨rfl, rfl, rfl⟩ (fun fs hr => retN X18 hx (t := .boolean) hret (by simp) (hb hby d44_55) hr)
theorem rmEqX1 (l : Launch) (Z : State) (a0 : Array Value) (hw : HW a0 Z) (n0 : Nat) (h0 : Heap) (O : Old Z n0 h0) (a b d1 d2 : Addr) (k1 k2 : ClassId) (xs : List Int32) (hL : xs.length ≤ 64) (cs : Int32) (S_cs : Sta Z Z.heap "java/lang/String" "COMPACT_STRINGS" "Z" (.int cs)) (hcs : ¬ cs = 0) (A : Exa Z h0 a "java/lang/String") (B : Exa Z h0 b "java/lang/String") (C1 : Fld Z h0 a "java/lang/String" "coder" "B" (.int (1 : Int32))) (C2 : Fld Z h0 b "java/lang/String" "coder" "B" (.int (1 : Int32))) (F1 : Fld Z h0 a "java/lang/String" "value" "[B" (.ref d1)) (F2 : Fld Z h0 b "java/lang/String" "value" "[B" (.ref d2)) (V1 : Arv Z h0 d1 k1 .byte (Int32.ofNat (2 * xs.length)) (ivL (u8 xs)) (.int (0 : Int32))) (V2 : Arv Z h0 d2 k2 .byte (Int32.ofNat (2 * xs.length)) (ivL (u8 xs)) (.int (0 : Int32))) :
    ConW FrameEnd l Z [] (⟨"java/lang/String", "equals", "(Ljava/lang/Object;)Z"⟩ : MethodName) jdk_42_method_66_code 3 (some .boolean) ({ frames := 1, cells := 0, slots := 0, locals := 14 } : Room) #[(.ref a), (.ref b)] h0 (Pure h0 (some (.int (1 : Int32)))) := by
  refine conOf (plainFor_of_name pn_java_lang_String) ?_
  intro p e s m below mth cc s₁ X0 hx hby hml hown hnm hret hlk hZ e0
  have N0 := Fr.nil n0
  refine Fin.came (castTop (t := _) (by first | (simp [entryFrame, mkF, argsToLocals, Value.category]; done) | rfl) (Steps.refl _) : Steps p.tables e below (s₁.setTop (entryFrame m #[(.ref a), (.ref b)] 3)) (s₁.setTop (mkF m 0 #[vr a, vr b, .unset] []))) ?_
  refine .go (fun _ k => XS.aloadN X0.here hx rfl (hb hby d44_0) rfl rfl k) ?_
  refine .go (fun _ k => XS.aloadN X0.here hx rfl (hb hby d44_1) rfl rfl k) ?_
  by_cases c2 : a = b
  · refine .go (fun _ k => XT.acmpNo X0.here hx rfl (hb hby d44_2) rfl rfl rfl (XT.aa_ne_f (congrArg Value.ref c2)) k) ?_
    show Fin _ _ _ _ _ _ _ _ s₁ (mkF m 5 #[vr a, vr b, .unset] [])
    refine .go (fun _ k => XS.iconst X0.here hx rfl (hb hby d44_5) k) ?_
    exact Fin.leaveN X0 e0 hlk (v := some (.int (nar .boolean (1 : Int32)))) (nvS hret) (by decide) (by decide) ⟨rfl, rfl, rfl⟩ (fun fs hr => retN X0 hx (t := .boolean) hret (by simp) (hb hby d44_6) hr)
  · refine .go (fun _ k => XT.acmpYes X0.here hx rfl (pc0 := 2) (pc' := 7) rfl (hb hby d44_2) rfl rfl rfl (XT.aa_ne_t (fun q => c2 (Value.ref.inj q))) (by decide) (by decide) k) ?_
    show Fin _ _ _ _ _ _ _ _ s₁ (mkF m 7 #[vr a, vr b, .unset] [])
    refine .go (fun _ k => XS.aloadN X0.here hx rfl (hb hby d44_7) rfl rfl k) ?_
    obtain ⟨T11, X11, e11, st11⟩ := instY X0 hx hZ hown (hw _ w_10) e0 (Ins.self B) (g := (mkF m 8 #[vr a, vr b, .unset] [(.ref b)])) rfl rfl (hb hby d44_8)
    refine Fin.go st11 ?_
    refine .go (fun _ k => XS.ifNo X11.here hx rfl (hb hby d44_11) rfl (XT.i0_eq_f (by decide)) k) ?_
    show Fin _ _ _ _ _ _ _ _ T11 (mkF m 14 #[vr a, vr b, .unset] [])
    refine .go (fun _ k => XS.aloadN X11.here hx rfl (hb hby d44_14) rfl rfl k) ?_
    obtain ⟨T12, X12, e12, st12⟩ := castY X11 hx hZ hown (hw _ w_10) e11 (Ins.self B) (g := (mkF m 15 #[vr a, vr b, .unset] [(.ref b)])) rfl rfl (hb hby d44_15)
    refine Fin.go st12 ?_
    refine .go (fun _ k => XS.astoreN X12.here hx rfl (hb hby d44_18) rfl rfl (l' := #[vr a, vr b, vr b]) rfl k) ?_
    obtain ⟨T13, X13, e13, st13⟩ := getS2 X12 hx hZ hown (host := "") (Or.inl (hw _ w_5)) Via.refl e12 (S_cs.ext O.2) (g := (mkF m 19 #[vr a, vr b, vr b] [])) rfl (hb hby d44_19)
    refine Fin.go st13 ?_
    show Fin _ _ _ _ _ _ _ _ T13 (mkF m 22 #[vr a, vr b, vr b] [(.int cs)])
    refine .go (fun _ k => XS.ifNo X13.here hx rfl (hb hby d44_22) rfl (XT.i0_eq_f hcs) k) ?_
    show Fin _ _ _ _ _ _ _ _ T13 (mkF m 25 #[vr a, vr b, vr b] [])
    refine .go (fun _ k => XS.aloadN X13.here hx rfl (hb hby d44_25) rfl rfl k) ?_
    obtain ⟨T14, X14, e14, st14⟩ := getF X13 hx hZ hown (host := "") (Or.inl (hw _ w_25)) Via.refl e13 C1 (g := (mkF m 26 #[vr a, vr b, vr b] [(.ref a)])) rfl rfl (hb hby d44_26)
    refine Fin.go st14 ?_
    show Fin _ _ _ _ _ _ _ _ T14 (mkF m 29 #[vr a, vr b, vr b] [(.int (1 : Int32))])
    refine .go (fun _ k => XS.aloadN X14.here hx rfl (hb hby d44_29) rfl rfl k) ?_
    obtain ⟨T15, X15, e15, st15⟩ := getF X14 hx hZ hown (host := "") (Or.inl (hw _ w_25)) Via.refl e14 C2 (g := (mkF m 30 #[vr a, vr b, vr b] [(.ref b), (.int (1 : Int32))])) rfl rfl (hb hby d44_30)
    refine Fin.go st15 ?_
    show Fin _ _ _ _ _ _ _ _ T15 (mkF m 33 #[vr a, vr b, vr b] [(.int (1 : Int32)), (.int (1 : Int32))])
    refine .go (fun _ k => XS.icmpNo X15.here hx rfl (hb hby d44_33) rfl (XT.ii_ne_f (by decide)) k) ?_
    show Fin _ _ _ _ _ _ _ _ T15 (mkF m 36 #[vr a, vr b, vr b] [])
    refine .go (fun _ k => XS.aloadN X15.here hx rfl (hb hby d44_36) rfl rfl k) ?_
    obtain ⟨T16, X16, e16, st16⟩ := getF X15 hx hZ hown (host := "") (Or.inl (hw _ w_23)) Via.refl e15 F1 (g := (mkF m 37 #[vr a, vr b, vr b] [(.ref a)])) rfl rfl (hb hby d44_37)
    refine Fin.go st16 ?_
    show Fin _ _ _ _ _ _ _ _ T16 (mkF m 40 #[vr a, vr b, vr b] [(.ref d1)])
    refine .go (fun _ k => XS.aloadN X16.here hx rfl (hb hby d44_40) rfl rfl k) ?_
    obtain ⟨T17, X17, e17, st17⟩ := getF X16 hx hZ hown (host := "") (Or.inl (hw _ w_23)) Via.refl e16 F2 (g := (mkF m 41 #[vr a, vr b, vr b] [(.ref b), (.ref d1)])) rfl rfl (hb hby d44_41)
    refine Fin.go st17 ?_
    show Fin _ _ _ _ _ _ _ _ T17 (mkF m 44 #[vr a, vr b, vr b] [(.ref d2), (.ref d1)])
    obtain ⟨v18, T18, L18, X18, q18, st18⟩ := callSt X17 hx hZ hown (hw _ w_241) (hw _ w_242) (hw _ w_8) (hw _ w_243) (by decide) (W := 0) (rmEqG l Z a0 hw n0 h0 O d1 d2 k1 k2 (u8 xs) (by rw [u8_len]; omega) (by rw [u8_len]; exact V1) (by rw [u8_len]; exact V2)) e17 (by decide) (by decide) (by decide) (by decide) (g := (mkF m 44 #[vr a, vr b, vr b] [(.ref d2), (.ref d1)])) rfl (by rw [hml]; rfl) (argsL := [(.ref d1), (.ref d2)]) (rest := []) (lenOf pd_oABABcZ rfl) rfl (wk rfl rfl) (hb hby d44_44)
    obtain ⟨rfl, e18, rfl⟩ := q18
    have N18 := Fr.app N0 (Fr.nil n0)
    refine Fin.go st18 ?_
    show Fin _ _ _ _ _ _ _ _ T18 (mkF m 47 #[vr a, vr b, vr b] [(.int (1 : Int32))])
    refine .go (fun _ k => XS.ifNo X18.here hx rfl (hb hby d44_47) rfl (XT.i0_eq_f (by decide)) k) ?_
    show Fin _ _ _ _ _ _ _ _ T18 (mkF m 50 #[vr a, vr b, vr b] [])
    refine .go (fun _ k => XS.iconst X18.here hx rfl (hb hby d44_50) k) ?_
    refine .go (fun _ k => XS.goto X18.here hx rfl (pc0 := 51) (pc' := 55) rfl (hb hby d44_51) (by decide) (by decide) k) ?_
    exact Fin.leaveN X18 e18 hlk (v := some (.int (nar .boolean (1 : Int32)))) (nvS hret) (by decide) (by decide) ⟨rfl, rfl, rfl⟩ (fun fs hr => retN X18 hx (t := .boolean) hret (by simp) (hb hby d44_55) hr)
theorem rmEqX (l : Launch) (Z : State) (a0 : Array Value) (hw : HW a0 Z) (n0 : Nat) (h0 : Heap) (O : Old Z n0 h0) (a b : Addr) (c1 c2 : Int32) (xs : List Int32) (B1 B2 : Nat) (hL : xs.length ≤ 64) (FA : SX Z h0 a c1 xs B1) (FB : SX Z h0 b c2 xs B2) (cs : Int32) (S_cs : Sta Z Z.heap "java/lang/String" "COMPACT_STRINGS" "Z" (.int cs)) (hcs : ¬ cs = 0) : Con FrameEnd l Z (⟨"java/lang/String", "equals", "(Ljava/lang/Object;)Z"⟩ : MethodName) jdk_42_method_66_code 3 (some .boolean) ({ frames := 1, cells := 0, slots := 0, locals := 14 } : Room) #[(.ref a), (.ref b)] h0 (Pure h0 (some (.int (1 : Int32)))) := by
  obtain ⟨-, -, A, C1, d1, k1, -, F1, h1⟩ := FA
  obtain ⟨-, -, B, C2, d2, k2, -, F2, h2⟩ := FB
  rcases h1 with ⟨rfl, l1, V1⟩ | ⟨rfl, l1, V1⟩ <;> rcases h2 with ⟨rfl, l2, V2⟩ | ⟨rfl, l2, V2⟩
  · exact rmEqX0 l Z a0 hw n0 h0 O a b d1 d2 k1 k2 xs hL cs S_cs hcs A B C1 C2 F1 F2 V1 V2
  · exact absurd l1 l2
  · exact absurd l2 l1
  · exact rmEqX1 l Z a0 hw n0 h0 O a b d1 d2 k1 k2 xs hL cs S_cs hcs A B C1 C2 F1 F2 V1 V2
theorem rmMin (l : Launch) (Z : State) (a0 : Array Value) (hw : HW a0 Z) (n0 : Nat) (h0 : Heap) (O : Old Z n0 h0) (n N : Nat) (h : n ≤ N) (hN : N ≤ 256) :
    ConW FrameEnd l Z [] (⟨"java/lang/Math", "min", "(II)I"⟩ : MethodName) jdk_29_method_69_code 2 (some .int) ({ frames := 0, cells := 0, slots := 0, locals := 0 } : Room) #[(.int (Int32.ofNat N)), (.int (Int32.ofNat n))] h0 (Pure h0 (some (.int (Int32.ofNat n)))) := by
  refine conOf (by decide +kernel) ?_
  intro p e s m below mth cc s₁ X0 hx hby hml hown hnm hret hlk hZ e0
  have N0 := Fr.nil n0
  refine Fin.came (castTop (t := _) (by first | (simp [entryFrame, mkF, argsToLocals, Value.category]; done) | rfl) (Steps.refl _) : Steps p.tables e below (s₁.setTop (entryFrame m #[(.int (Int32.ofNat N)), (.int (Int32.ofNat n))] 2)) (s₁.setTop (mkF m 0 #[vi (Int32.ofNat N), vi (Int32.ofNat n)] []))) ?_
  refine .go (fun _ k => XS.iloadN X0.here hx rfl (hb hby d23_0) rfl k) ?_
  refine .go (fun _ k => XS.iloadN X0.here hx rfl (hb hby d23_1) rfl k) ?_
  by_cases c2 : (Int32.ofNat n) < (Int32.ofNat N)
  · refine .go (fun _ k => XS.icmpYes X0.here hx rfl (pc0 := 2) (pc' := 9) rfl (hb hby d23_2) rfl (XT.ii_gt_t c2) (by decide) (by decide) k) ?_
    show Fin _ _ _ _ _ _ _ _ s₁ (mkF m 9 #[vi (Int32.ofNat N), vi (Int32.ofNat n)] [])
    refine .go (fun _ k => XS.iloadN X0.here hx rfl (hb hby d23_9) rfl k) ?_
    exact Fin.leaveN X0 e0 hlk (v := some (.int (Int32.ofNat n))) (nvS hret) (by decide) (by decide) ⟨by rfl, rfl, rfl⟩ (fun fs hr => retI X0 hx hret (hb hby d23_10) hr)
  · refine .go (fun _ k => XS.icmpNo X0.here hx rfl (hb hby d23_2) rfl (XT.ii_gt_f c2) k) ?_
    show Fin _ _ _ _ _ _ _ _ s₁ (mkF m 5 #[vi (Int32.ofNat N), vi (Int32.ofNat n)] [])
    refine .go (fun _ k => XS.iloadN X0.here hx rfl (hb hby d23_5) rfl k) ?_
    refine .go (fun _ k => XS.goto X0.here hx rfl (pc0 := 6) (pc' := 10) rfl (hb hby d23_6) (by decide) (by decide) k) ?_
    exact Fin.leaveN X0 e0 hlk (v := some (.int (Int32.ofNat N))) (nvS hret) (by decide) (by decide) ⟨by rw [show N = n by by_cases q : n = N; exact q.symm; exact absurd (on_l (i := n) (k := N) (by omega) (by omega)) c2], rfl, rfl⟩ (fun fs hr => retI X0 hx hret (hb hby d23_10) hr)
theorem rmCkL (l : Launch) (Z : State) (a0 : Array Value) (hw : HW a0 Z) (n0 : Nat) (h0 : Heap) (O : Old Z n0 h0) (n : Nat) (hN : n ≤ 256) :
    ConW FrameEnd l Z [] (⟨"java/util/Arrays", "checkLength", "(II)V"⟩ : MethodName) jdk_65_method_131_code 2 none ({ frames := 0, cells := 0, slots := 0, locals := 0 } : Room) #[(.int (0 : Int32)), (.int (Int32.ofNat n))] h0 (Pure h0 none) := by
  refine conOf (plainFor_of_name pn_java_util_Arrays) ?_
  intro p e s m below mth cc s₁ X0 hx hby hml hown hnm hret hlk hZ e0
  have N0 := Fr.nil n0
  refine Fin.came (castTop (t := _) (by first | (simp [entryFrame, mkF, argsToLocals, Value.category]; done) | rfl) (Steps.refl _) : Steps p.tables e below (s₁.setTop (entryFrame m #[(.int (0 : Int32)), (.int (Int32.ofNat n))] 2)) (s₁.setTop (mkF m 0 #[vi (0 : Int32), vi (Int32.ofNat n)] []))) ?_
  refine .go (fun _ k => XS.iloadN X0.here hx rfl (hb hby d36_0) rfl k) ?_
  refine .go (fun _ k => XS.iloadN X0.here hx rfl (hb hby d36_1) rfl k) ?_
  refine .go (fun _ k => XS.icmpYes X0.here hx rfl (pc0 := 2) (pc' := 37) rfl (hb hby d36_2) rfl (XT.ii_ge_t (on_g (i := n) (by omega))) (by decide) (by decide) k) ?_
  show Fin _ _ _ _ _ _ _ _ s₁ (mkF m 37 #[vi (0 : Int32), vi (Int32.ofNat n)] [])
  exact Fin.leaveN X0 e0 hlk (v := none) (fun _ => rfl) (by decide) (by decide) ⟨rfl, rfl, rfl⟩ (fun fs hr => X0.returnOut hx hret (hb hby d36_37) hr)
theorem rmCRB (l : Launch) (Z : State) (a0 : Array Value) (hw : HW a0 Z) (n0 : Nat) (h0 : Heap) (O : Old Z n0 h0) (b : Addr) (kb : ClassId) (ys : List Int32) (N n : Nat) (hY : ys.length = N) (hN : N ≤ 256) (hn : n ≤ N) (VB : Arv Z h0 b kb .byte (Int32.ofNat N) (ivL ys) (.int (0 : Int32))) :
    ConW FrameEnd l Z [] (⟨"java/util/Arrays", "copyOfRangeByte", "([BII)[B"⟩ : MethodName) jdk_65_method_133_code 5 (some (.array .byte)) ({ frames := 1, cells := 1, slots := 256, locals := 60 } : Room) #[(.ref b), (.int (0 : Int32)), (.int (Int32.ofNat n))] h0 (fun v h L => ∃ d kd, v = some (.ref d) ∧ Fr n0 L ∧ Keep h0 h [] ∧ Arv Z h d kd .byte (Int32.ofNat n) (ivL (ys.take n)) (.int (0 : Int32)) ∧ h0.size ≤ d) := by
  refine conOf (plainFor_of_name pn_java_util_Arrays) ?_
  intro p e s m below mth cc s₁ X0 hx hby hml hown hnm hret hlk hZ e0
  have N0 := Fr.nil n0
  have K0 := Keep.refl h0 ([] : List Addr)
  refine Fin.came (castTop (t := _) (by first | (simp [entryFrame, mkF, argsToLocals, Value.category]; done) | rfl) (Steps.refl _) : Steps p.tables e below (s₁.setTop (entryFrame m #[(.ref b), (.int (0 : Int32)), (.int (Int32.ofNat n))] 5)) (s₁.setTop (mkF m 0 #[vr b, vi (0 : Int32), vi (Int32.ofNat n), .unset, .unset] []))) ?_
  refine .go (fun _ k => XS.iloadN X0.here hx rfl (hb hby d35_0) rfl k) ?_
  refine .go (fun _ k => XS.iloadN X0.here hx rfl (hb hby d35_1) rfl k) ?_
  obtain ⟨v11, T11, L11, X11, q11, st11⟩ := callSt X0 hx hZ hown (hw _ w_180) (hw _ w_181) (hw _ w_117) (hw _ w_182) (by decide) (W := 0) (rmCkL l Z a0 hw n0 h0 O n (by omega)) e0 (by decide) (by decide) (by decide) (by decide) (g := (mkF m 2 #[vr b, vi (0 : Int32), vi (Int32.ofNat n), .unset, .unset] [(.int (Int32.ofNat n)), (.int (0 : Int32))])) rfl (by rw [hml]; rfl) (argsL := [(.int (0 : Int32)), (.int (Int32.ofNat n))]) (rest := []) (lenOf pd_oIIcV rfl) rfl (wk rfl rfl) (hb hby d35_2)
  obtain ⟨rfl, e11, rfl⟩ := q11
  have N11 := Fr.app N0 (Fr.nil n0)
  refine Fin.go st11 ?_
  show Fin _ _ _ _ _ _ _ _ T11 (mkF m 5 #[vr b, vi (0 : Int32), vi (Int32.ofNat n), .unset, .unset] [])
  refine .go (fun _ k => XS.iloadN X11.here hx rfl (hb hby d35_5) rfl k) ?_
  refine .go (fun _ k => XS.iloadN X11.here hx rfl (hb hby d35_6) rfl k) ?_
  refine .go (fun _ k => XS.isub X11.here hx rfl (hb hby d35_7) rfl k) ?_
  show Fin _ _ _ _ _ _ _ _ T11 (mkF m 8 #[vr b, vi (0 : Int32), vi (Int32.ofNat n), .unset, .unset] [(.int ((Int32.ofNat n) - (0 : Int32)))])
  rw [Int32.sub_zero]
  show Fin _ _ _ _ _ _ _ _ T11 (mkF m 8 #[vr b, vi (0 : Int32), vi (Int32.ofNat n), .unset, .unset] [(.int (Int32.ofNat n))])
  refine .go (fun _ k => XS.istoreN X11.here hx rfl (hb hby d35_8) rfl (l' := #[vr b, vi (0 : Int32), vi (Int32.ofNat n), vi (Int32.ofNat n), .unset]) rfl k) ?_
  refine .go (fun _ k => XS.iloadN X11.here hx rfl (hb hby d35_9) rfl k) ?_
  obtain ⟨T12, h12, k12, X12, e12, E12, A12, st12⟩ := newP X11 hx hZ (aty := .byte) (hw _ w_15) e11 (g := (mkF m 10 #[vr b, vi (0 : Int32), vi (Int32.ofNat n), vi (Int32.ofNat n), .unset] [(.int (Int32.ofNat n))])) rfl (hb hby d35_10) rfl (on_g (i := n) (by omega)) (cap := 256) (by rw [on_n (by omega)]; omega) (by decide) (by decide) (by decide)
  obtain ⟨a12, g12⟩ : ∃ z, z = h0.size := ⟨_, rfl⟩
  rw [← g12] at A12 st12
  refine Fin.go st12 ?_
  have O12 := O.ext E12
  have K12 := K0.ext E12
  have n12 : n0 ≤ a12 := by have := O.2.1; have := O.1; omega
  have z12 : h0.size ≤ a12 := by have := K0.1; omega
  have V12 : Arv Z h12 a12 k12 .byte (Int32.ofNat n) (ivL (List.replicate n 0)) (.int (0 : Int32)) := by rw [ivr]; exact (Arv.new A12 (on_g (i := n) (by omega))).pad (pad_rep [] (.int (0 : Int32)) n)
  show Fin _ _ _ _ _ _ _ _ T12 (mkF m 12 #[vr b, vi (0 : Int32), vi (Int32.ofNat n), vi (Int32.ofNat n), .unset] [(.ref a12)])
  refine .go (fun _ k => XS.astore X12.here hx rfl (hb hby d35_12) rfl rfl (l' := #[vr b, vi (0 : Int32), vi (Int32.ofNat n), vi (Int32.ofNat n), vr a12]) rfl k) ?_
  refine .go (fun _ k => XS.aloadN X12.here hx rfl (hb hby d35_14) rfl rfl k) ?_
  refine .go (fun _ k => XS.iloadN X12.here hx rfl (hb hby d35_15) rfl k) ?_
  refine .go (fun _ k => XS.aload X12.here hx rfl (hb hby d35_16) rfl rfl k) ?_
  show Fin _ _ _ _ _ _ _ _ T12 (mkF m 18 #[vr b, vi (0 : Int32), vi (Int32.ofNat n), vi (Int32.ofNat n), vr a12] [(.ref a12), (.int (0 : Int32)), (.ref b)])
  refine .go (fun _ k => XS.iconst X12.here hx rfl (hb hby d35_18) k) ?_
  refine .go (fun _ k => XS.aloadN X12.here hx rfl (hb hby d35_19) rfl rfl k) ?_
  obtain ⟨cz13, B13, q13, S13, M13, H13, G13⟩ := id (VB.ext E12)
  refine Fin.go (fun _ k => X12.arraylength hx (by rw [e12]; exact B13.1) (State.isArrayOf_alike hZ.alike B13.2.1) (g := (mkF m 20 #[vr b, vi (0 : Int32), vi (Int32.ofNat n), vi (Int32.ofNat n), vr a12] [(.ref b), (.int (0 : Int32)), (.ref a12), (.int (0 : Int32)), (.ref b)])) rfl rfl (hb hby d35_20) _ k) ?_
  rw [len_of S13 M13]
  show Fin _ _ _ _ _ _ _ _ T12 (mkF m 21 #[vr b, vi (0 : Int32), vi (Int32.ofNat n), vi (Int32.ofNat n), vr a12] [(.int (Int32.ofNat N)), (.int (0 : Int32)), (.ref a12), (.int (0 : Int32)), (.ref b)])
  refine .go (fun _ k => XS.iloadN X12.here hx rfl (hb hby d35_21) rfl k) ?_
  refine .go (fun _ k => XS.isub X12.here hx rfl (hb hby d35_22) rfl k) ?_
  show Fin _ _ _ _ _ _ _ _ T12 (mkF m 23 #[vr b, vi (0 : Int32), vi (Int32.ofNat n), vi (Int32.ofNat n), vr a12] [(.int ((Int32.ofNat N) - (0 : Int32))), (.int (0 : Int32)), (.ref a12), (.int (0 : Int32)), (.ref b)])
  rw [Int32.sub_zero]
  show Fin _ _ _ _ _ _ _ _ T12 (mkF m 23 #[vr b, vi (0 : Int32), vi (Int32.ofNat n), vi (Int32.ofNat n), vr a12] [(.int (Int32.ofNat N)), (.int (0 : Int32)), (.ref a12), (.int (0 : Int32)), (.ref b)])
  refine .go (fun _ k => XS.iloadN X12.here hx rfl (hb hby d35_23) rfl k) ?_
  obtain ⟨v14, T14, L14, X14, q14, st14⟩ := callSt X12 hx hZ hown (hw _ w_119) (hw _ w_120) (hw _ w_111) (hw _ w_121) (by decide) (W := 4) (rmMin l Z a0 hw n0 h12 O12 n N (by omega) (by omega)) e12 (by decide) (by decide) (by decide) (by decide) (g := (mkF m 24 #[vr b, vi (0 : Int32), vi (Int32.ofNat n), vi (Int32.ofNat n), vr a12] [(.int (Int32.ofNat n)), (.int (Int32.ofNat N)), (.int (0 : Int32)), (.ref a12), (.int (0 : Int32)), (.ref b)])) rfl (by rw [hml]; rfl) (argsL := [(.int (Int32.ofNat N)), (.int (Int32.ofNat n))]) (rest := [(.int (0 : Int32)), (.ref a12), (.int (0 : Int32)), (.ref b)]) (lenOf pd_oIIcI rfl) rfl (wk rfl rfl) (hb hby d35_24)
  obtain ⟨rfl, e14, rfl⟩ := q14
  have N14 := Fr.app N11 (Fr.nil n0)
  refine Fin.go st14 ?_
  show Fin _ _ _ _ _ _ _ _ T14 (mkF m 27 #[vr b, vi (0 : Int32), vi (Int32.ofNat n), vi (Int32.ofNat n), vr a12] [(.int (Int32.ofNat n)), (.int (0 : Int32)), (.ref a12), (.int (0 : Int32)), (.ref b)])
  obtain ⟨T15, h15, L15, X15, e15, Nc15, Kq15, Vq15, st15⟩ := cpA X14 hx hZ hown (hw _ w_122) (hw _ w_125) (hw _ w_123) (hw _ w_124) e14 (VB.ext E12) V12 (Or.inl ⟨rfl, rfl⟩) (by decide) (by decide) (on_g (i := n) (by omega)) (by rw [i0, on_n (i := n) (by omega), on_n (i := N) (by omega)]; omega) (by rw [i0, on_n (i := n) (by omega)]; omega) rfl (by rw [i0, on_n (i := n) (by omega), ivl, List.length_replicate]; omega) N14 n12 (g := (mkF m 27 #[vr b, vi (0 : Int32), vi (Int32.ofNat n), vi (Int32.ofNat n), vr a12] [(.int (Int32.ofNat n)), (.int (0 : Int32)), (.ref a12), (.int (0 : Int32)), (.ref b)])) rfl (by rw [hml]; rfl) rfl (hb hby d35_27) (by decide) (W := 0) (wk rfl rfl) (by decide)
  have V15 : Arv Z h15 a12 k12 .byte (Int32.ofNat n) (ivL (ys.take n)) (.int (0 : Int32)) := by have q := Vq15; rw [i0, on_n (i := n) (by omega), cpL _ _ _ _ _ (by omega)] at q; rw [copy_take _ _ (by omega)] at q; exact q
  have O15 := O12.keep Kq15 (allS n12 all0)
  have K15 := K12.trans Kq15 (allS (Or.inr z12) all0)
  refine Fin.go st15 ?_
  have V15_b := ((VB.ext E12).keep Kq15 (ninS (Nat.ne_of_lt (Nat.lt_of_lt_of_eq VB.lt g12.symm)) nin0))
  show Fin _ _ _ _ _ _ _ _ T15 (mkF m 30 #[vr b, vi (0 : Int32), vi (Int32.ofNat n), vi (Int32.ofNat n), vr a12] [])
  refine .go (fun _ k => XS.aload X15.here hx rfl (hb hby d35_30) rfl rfl k) ?_
  exact Fin.leaveN X15 e15 hlk (v := some (.ref a12)) (nvS hret) (by decide) (by decide) ⟨a12, k12, rfl, Nc15, K15, V15, z12⟩ (fun fs hr => retOut X15 hx hret rfl (Or.inr (Or.inr (Or.inr (Or.inr ⟨rfl, rfl, rfl⟩)))) (hb hby d35_32) hr)
theorem rmEns0 (l : Launch) (Z : State) (a0 : Array Value) (hw : HW a0 Z) (n0 : Nat) (h0 : Heap) (O : Old Z n0 h0) (b d : Addr) (kd : ClassId) (ys : List Int32) (N mm : Nat) (hm : mm ≤ N) (hN : N ≤ 64) (G1 : Fld Z h0 b "java/lang/AbstractStringBuilder" "value" "[B" (.ref d)) (G2 : Fld Z h0 b "java/lang/AbstractStringBuilder" "coder" "B" (.int (0 : Int32))) (VD : Arv Z h0 d kd .byte (Int32.ofNat N) (ivL ys) (.int (0 : Int32))) :
    ConW FrameEnd l Z [] (⟨"java/lang/AbstractStringBuilder", "ensureCapacityInternal", "(I)V"⟩ : MethodName) jdk_68_method_9_code 3 none ({ frames := 0, cells := 0, slots := 0, locals := 0 } : Room) #[(.ref b), (.int (Int32.ofNat mm))] h0 (Pure h0 none) := by
  refine conOf (plainFor_of_name pn_java_lang_AbstractStringBuilder) ?_
  intro p e s m below mth cc s₁ X0 hx hby hml hown hnm hret hlk hZ e0
  have N0 := Fr.nil n0
  refine Fin.came (castTop (t := _) (by first | (simp [entryFrame, mkF, argsToLocals, Value.category]; done) | rfl) (Steps.refl _) : Steps p.tables e below (s₁.setTop (entryFrame m #[(.ref b), (.int (Int32.ofNat mm))] 3)) (s₁.setTop (mkF m 0 #[vr b, vi (Int32.ofNat mm), .unset] []))) ?_
  refine .go (fun _ k => XS.aloadN X0.here hx rfl (hb hby d18_0) rfl rfl k) ?_
  obtain ⟨T11, X11, e11, st11⟩ := getF X0 hx hZ hown (host := "") (Or.inl (hw _ w_68)) Via.refl e0 G1 (g := (mkF m 1 #[vr b, vi (Int32.ofNat mm), .unset] [(.ref b)])) rfl rfl (hb hby d18_1)
  refine Fin.go st11 ?_
  show Fin _ _ _ _ _ _ _ _ T11 (mkF m 4 #[vr b, vi (Int32.ofNat mm), .unset] [(.ref d)])
  obtain ⟨cz12, B12, q12, S12, M12, H12, G12⟩ := id VD
  refine Fin.go (fun _ k => X11.arraylength hx (by rw [e11]; exact B12.1) (State.isArrayOf_alike hZ.alike B12.2.1) (g := (mkF m 4 #[vr b, vi (Int32.ofNat mm), .unset] [(.ref d)])) rfl rfl (hb hby d18_4) _ k) ?_
  rw [len_of S12 M12]
  show Fin _ _ _ _ _ _ _ _ T11 (mkF m 5 #[vr b, vi (Int32.ofNat mm), .unset] [(.int (Int32.ofNat N))])
  refine .go (fun _ k => XS.aloadN X11.here hx rfl (hb hby d18_5) rfl rfl k) ?_
  obtain ⟨T13, X13, e13, st13⟩ := getF X11 hx hZ hown (host := "") (Or.inl (hw _ w_70)) Via.refl e11 G2 (g := (mkF m 6 #[vr b, vi (Int32.ofNat mm), .unset] [(.ref b), (.int (Int32.ofNat N))])) rfl rfl (hb hby d18_6)
  refine Fin.go st13 ?_
  show Fin _ _ _ _ _ _ _ _ T13 (mkF m 9 #[vr b, vi (Int32.ofNat mm), .unset] [(.int (0 : Int32)), (.int (Int32.ofNat N))])
  refine .go (fun _ k => XT.ishr X13.here hx rfl (hb hby d18_9) rfl k) ?_
  show Fin _ _ _ _ _ _ _ _ T13 (mkF m 10 #[vr b, vi (Int32.ofNat mm), .unset] [(.int ((Int32.ofNat N) >>> ((0 : Int32) &&& 31)))])
  show Fin _ _ _ _ _ _ _ _ T13 (mkF m 10 #[vr b, vi (Int32.ofNat mm), .unset] [(.int ((Int32.ofNat N) >>> ((0 : Int32) &&& 31)))])
  rw [shr0 N (by omega)]
  show Fin _ _ _ _ _ _ _ _ T13 (mkF m 10 #[vr b, vi (Int32.ofNat mm), .unset] [(.int (Int32.ofNat N))])
  refine .go (fun _ k => XS.istoreN X13.here hx rfl (hb hby d18_10) rfl (l' := #[vr b, vi (Int32.ofNat mm), vi (Int32.ofNat N)]) rfl k) ?_
  refine .go (fun _ k => XS.iloadN X13.here hx rfl (hb hby d18_11) rfl k) ?_
  refine .go (fun _ k => XS.iloadN X13.here hx rfl (hb hby d18_12) rfl k) ?_
  refine .go (fun _ k => XS.isub X13.here hx rfl (hb hby d18_13) rfl k) ?_
  show Fin _ _ _ _ _ _ _ _ T13 (mkF m 14 #[vr b, vi (Int32.ofNat mm), vi (Int32.ofNat N)] [(.int ((Int32.ofNat mm) - (Int32.ofNat N)))])
  refine .go (fun _ k => XS.ifYes X13.here hx rfl (pc0 := 14) (pc' := 38) rfl (hb hby d18_14) rfl (XT.i0_le_t (on_sub_le hm (by omega))) (by decide) (by decide) k) ?_
  show Fin _ _ _ _ _ _ _ _ T13 (mkF m 38 #[vr b, vi (Int32.ofNat mm), vi (Int32.ofNat N)] [])
  exact Fin.leaveN X13 e13 hlk (v := none) (fun _ => rfl) (by decide) (by decide) ⟨rfl, rfl, rfl⟩ (fun fs hr => X13.returnOut hx hret (hb hby d18_38) hr)
theorem rmEns1 (l : Launch) (Z : State) (a0 : Array Value) (hw : HW a0 Z) (n0 : Nat) (h0 : Heap) (O : Old Z n0 h0) (b d : Addr) (kd : ClassId) (ys : List Int32) (N mm : Nat) (hm : mm ≤ N) (hN : N ≤ 64) (G1 : Fld Z h0 b "java/lang/AbstractStringBuilder" "value" "[B" (.ref d)) (G2 : Fld Z h0 b "java/lang/AbstractStringBuilder" "coder" "B" (.int (1 : Int32))) (VD : Arv Z h0 d kd .byte (Int32.ofNat (2 * N)) (ivL ys) (.int (0 : Int32))) :
    ConW FrameEnd l Z [] (⟨"java/lang/AbstractStringBuilder", "ensureCapacityInternal", "(I)V"⟩ : MethodName) jdk_68_method_9_code 3 none ({ frames := 0, cells := 0, slots := 0, locals := 0 } : Room) #[(.ref b), (.int (Int32.ofNat mm))] h0 (Pure h0 none) := by
  refine conOf (plainFor_of_name pn_java_lang_AbstractStringBuilder) ?_
  intro p e s m below mth cc s₁ X0 hx hby hml hown hnm hret hlk hZ e0
  have N0 := Fr.nil n0
  refine Fin.came (castTop (t := _) (by first | (simp [entryFrame, mkF, argsToLocals, Value.category]; done) | rfl) (Steps.refl _) : Steps p.tables e below (s₁.setTop (entryFrame m #[(.ref b), (.int (Int32.ofNat mm))] 3)) (s₁.setTop (mkF m 0 #[vr b, vi (Int32.ofNat mm), .unset] []))) ?_
  refine .go (fun _ k => XS.aloadN X0.here hx rfl (hb hby d18_0) rfl rfl k) ?_
  obtain ⟨T11, X11, e11, st11⟩ := getF X0 hx hZ hown (host := "") (Or.inl (hw _ w_68)) Via.refl e0 G1 (g := (mkF m 1 #[vr b, vi (Int32.ofNat mm), .unset] [(.ref b)])) rfl rfl (hb hby d18_1)
  refine Fin.go st11 ?_
  show Fin _ _ _ _ _ _ _ _ T11 (mkF m 4 #[vr b, vi (Int32.ofNat mm), .unset] [(.ref d)])
  obtain ⟨cz12, B12, q12, S12, M12, H12, G12⟩ := id VD
  refine Fin.go (fun _ k => X11.arraylength hx (by rw [e11]; exact B12.1) (State.isArrayOf_alike hZ.alike B12.2.1) (g := (mkF m 4 #[vr b, vi (Int32.ofNat mm), .unset] [(.ref d)])) rfl rfl (hb hby d18_4) _ k) ?_
  rw [len_of S12 M12]
  show Fin _ _ _ _ _ _ _ _ T11 (mkF m 5 #[vr b, vi (Int32.ofNat mm), .unset] [(.int (Int32.ofNat (2 * N)))])
  refine .go (fun _ k => XS.aloadN X11.here hx rfl (hb hby d18_5) rfl rfl k) ?_
  obtain ⟨T13, X13, e13, st13⟩ := getF X11 hx hZ hown (host := "") (Or.inl (hw _ w_70)) Via.refl e11 G2 (g := (mkF m 6 #[vr b, vi (Int32.ofNat mm), .unset] [(.ref b), (.int (Int32.ofNat (2 * N)))])) rfl rfl (hb hby d18_6)
  refine Fin.go st13 ?_
  show Fin _ _ _ _ _ _ _ _ T13 (mkF m 9 #[vr b, vi (Int32.ofNat mm), .unset] [(.int (1 : Int32)), (.int (Int32.ofNat (2 * N)))])
  refine .go (fun _ k => XT.ishr X13.here hx rfl (hb hby d18_9) rfl k) ?_
  show Fin _ _ _ _ _ _ _ _ T13 (mkF m 10 #[vr b, vi (Int32.ofNat mm), .unset] [(.int ((Int32.ofNat (2 * N)) >>> ((1 : Int32) &&& 31)))])
  show Fin _ _ _ _ _ _ _ _ T13 (mkF m 10 #[vr b, vi (Int32.ofNat mm), .unset] [(.int ((Int32.ofNat (2 * N)) >>> ((1 : Int32) &&& 31)))])
  rw [shr1 N (by omega)]
  show Fin _ _ _ _ _ _ _ _ T13 (mkF m 10 #[vr b, vi (Int32.ofNat mm), .unset] [(.int (Int32.ofNat N))])
  refine .go (fun _ k => XS.istoreN X13.here hx rfl (hb hby d18_10) rfl (l' := #[vr b, vi (Int32.ofNat mm), vi (Int32.ofNat N)]) rfl k) ?_
  refine .go (fun _ k => XS.iloadN X13.here hx rfl (hb hby d18_11) rfl k) ?_
  refine .go (fun _ k => XS.iloadN X13.here hx rfl (hb hby d18_12) rfl k) ?_
  refine .go (fun _ k => XS.isub X13.here hx rfl (hb hby d18_13) rfl k) ?_
  show Fin _ _ _ _ _ _ _ _ T13 (mkF m 14 #[vr b, vi (Int32.ofNat mm), vi (Int32.ofNat N)] [(.int ((Int32.ofNat mm) - (Int32.ofNat N)))])
  refine .go (fun _ k => XS.ifYes X13.here hx rfl (pc0 := 14) (pc' := 38) rfl (hb hby d18_14) rfl (XT.i0_le_t (on_sub_le hm (by omega))) (by decide) (by decide) k) ?_
  show Fin _ _ _ _ _ _ _ _ T13 (mkF m 38 #[vr b, vi (Int32.ofNat mm), vi (Int32.ofNat N)] [])
  exact Fin.leaveN X13 e13 hlk (v := none) (fun _ => rfl) (by decide) (by decide) ⟨rfl, rfl, rfl⟩ (fun fs hr => X13.returnOut hx hret (hb hby d18_38) hr)
theorem rmMx (l : Launch) (Z : State) (a0 : Array Value) (hw : HW a0 Z) (n0 : Nat) (h0 : Heap) (O : Old Z n0 h0)  :
    ConW FrameEnd l Z [] (⟨"java/lang/Math", "max", "(II)I"⟩ : MethodName) jdk_29_method_65_code 2 (some .int) ({ frames := 0, cells := 0, slots := 0, locals := 0 } : Room) #[(.int (2 : Int32)), (.int (18 : Int32))] h0 (Pure h0 (some (.int (18 : Int32)))) := by
  refine conOf (by decide +kernel) ?_
  intro p e s m below mth cc s₁ X0 hx hby hml hown hnm hret hlk hZ e0
  have N0 := Fr.nil n0
  refine Fin.came (castTop (t := _) (by first | (simp [entryFrame, mkF, argsToLocals, Value.category]; done) | rfl) (Steps.refl _) : Steps p.tables e below (s₁.setTop (entryFrame m #[(.int (2 : Int32)), (.int (18 : Int32))] 2)) (s₁.setTop (mkF m 0 #[vi (2 : Int32), vi (18 : Int32)] []))) ?_
  refine .go (fun _ k => XS.iloadN X0.here hx rfl (hb hby d21_0) rfl k) ?_
  refine .go (fun _ k => XS.iloadN X0.here hx rfl (hb hby d21_1) rfl k) ?_
  refine .go (fun _ k => XS.icmpYes X0.here hx rfl (pc0 := 2) (pc' := 9) rfl (hb hby d21_2) rfl (XT.ii_lt_t (by decide)) (by decide) (by decide) k) ?_
  show Fin _ _ _ _ _ _ _ _ s₁ (mkF m 9 #[vi (2 : Int32), vi (18 : Int32)] [])
  refine .go (fun _ k => XS.iloadN X0.here hx rfl (hb hby d21_9) rfl k) ?_
  exact Fin.leaveN X0 e0 hlk (v := some (.int (18 : Int32))) (nvS hret) (by decide) (by decide) ⟨rfl, rfl, rfl⟩ (fun fs hr => retI X0 hx hret (hb hby d21_10) hr)
theorem rmMinR (l : Launch) (Z : State) (a0 : Array Value) (hw : HW a0 Z) (n0 : Nat) (h0 : Heap) (O : Old Z n0 h0) (n N : Nat) (hn : n ≤ N) (hN : N ≤ 256) :
    ConW FrameEnd l Z [] (⟨"java/lang/Math", "min", "(II)I"⟩ : MethodName) jdk_29_method_69_code 2 (some .int) ({ frames := 0, cells := 0, slots := 0, locals := 0 } : Room) #[(.int (Int32.ofNat n)), (.int (Int32.ofNat N))] h0 (Pure h0 (some (.int (Int32.ofNat n)))) := by
  refine conOf (by decide +kernel) ?_
  intro p e s m below mth cc s₁ X0 hx hby hml hown hnm hret hlk hZ e0
  have N0 := Fr.nil n0
  refine Fin.came (castTop (t := _) (by first | (simp [entryFrame, mkF, argsToLocals, Value.category]; done) | rfl) (Steps.refl _) : Steps p.tables e below (s₁.setTop (entryFrame m #[(.int (Int32.ofNat n)), (.int (Int32.ofNat N))] 2)) (s₁.setTop (mkF m 0 #[vi (Int32.ofNat n), vi (Int32.ofNat N)] []))) ?_
  refine .go (fun _ k => XS.iloadN X0.here hx rfl (hb hby d23_0) rfl k) ?_
  refine .go (fun _ k => XS.iloadN X0.here hx rfl (hb hby d23_1) rfl k) ?_
  refine .go (fun _ k => XS.icmpNo X0.here hx rfl (hb hby d23_2) rfl (XT.ii_gt_f (on_nl hn (by omega))) k) ?_
  show Fin _ _ _ _ _ _ _ _ s₁ (mkF m 5 #[vi (Int32.ofNat n), vi (Int32.ofNat N)] [])
  refine .go (fun _ k => XS.iloadN X0.here hx rfl (hb hby d23_5) rfl k) ?_
  refine .go (fun _ k => XS.goto X0.here hx rfl (pc0 := 6) (pc' := 10) rfl (hb hby d23_6) (by decide) (by decide) k) ?_
  exact Fin.leaveN X0 e0 hlk (v := some (.int (Int32.ofNat n))) (nvS hret) (by decide) (by decide) ⟨rfl, rfl, rfl⟩ (fun fs hr => retI X0 hx hret (hb hby d23_10) hr)
theorem rmNL (l : Launch) (Z : State) (a0 : Array Value) (hw : HW a0 Z) (n0 : Nat) (h0 : Heap) (O : Old Z n0 h0)  :
    ConW FrameEnd l Z [] (⟨"jdk/internal/util/ArraysSupport", "newLength", "(III)I"⟩ : MethodName) jdk_48_method_27_code 4 (some .int) ({ frames := 1, cells := 0, slots := 0, locals := 14 } : Room) #[(.int (16 : Int32)), (.int (2 : Int32)), (.int (18 : Int32))] h0 (Pure h0 (some (.int (34 : Int32)))) := by
  refine conOf (plainFor_of_name pn_jdk_internal_util_ArraysSupport) ?_
  intro p e s m below mth cc s₁ X0 hx hby hml hown hnm hret hlk hZ e0
  have N0 := Fr.nil n0
  refine Fin.came (castTop (t := _) (by first | (simp [entryFrame, mkF, argsToLocals, Value.category]; done) | rfl) (Steps.refl _) : Steps p.tables e below (s₁.setTop (entryFrame m #[(.int (16 : Int32)), (.int (2 : Int32)), (.int (18 : Int32))] 4)) (s₁.setTop (mkF m 0 #[vi (16 : Int32), vi (2 : Int32), vi (18 : Int32), .unset] []))) ?_
  refine .go (fun _ k => XS.iloadN X0.here hx rfl (hb hby d20_0) rfl k) ?_
  refine .go (fun _ k => XS.iloadN X0.here hx rfl (hb hby d20_1) rfl k) ?_
  refine .go (fun _ k => XS.iloadN X0.here hx rfl (hb hby d20_2) rfl k) ?_
  obtain ⟨v11, T11, L11, X11, q11, st11⟩ := callSt X0 hx hZ hown (hw _ w_109) (hw _ w_110) (hw _ w_111) (hw _ w_112) (by decide) (W := 1) (rmMx l Z a0 hw n0 h0 O) e0 (by decide) (by decide) (by decide) (by decide) (g := (mkF m 3 #[vi (16 : Int32), vi (2 : Int32), vi (18 : Int32), .unset] [(.int (18 : Int32)), (.int (2 : Int32)), (.int (16 : Int32))])) rfl (by rw [hml]; rfl) (argsL := [(.int (2 : Int32)), (.int (18 : Int32))]) (rest := [(.int (16 : Int32))]) (lenOf pd_oIIcI rfl) rfl (wk rfl rfl) (hb hby d20_3)
  obtain ⟨rfl, e11, rfl⟩ := q11
  have N11 := Fr.app N0 (Fr.nil n0)
  refine Fin.go st11 ?_
  show Fin _ _ _ _ _ _ _ _ T11 (mkF m 6 #[vi (16 : Int32), vi (2 : Int32), vi (18 : Int32), .unset] [(.int (18 : Int32)), (.int (16 : Int32))])
  refine .go (fun _ k => XS.iadd X11.here hx rfl (hb hby d20_6) rfl k) ?_
  show Fin _ _ _ _ _ _ _ _ T11 (mkF m 7 #[vi (16 : Int32), vi (2 : Int32), vi (18 : Int32), .unset] [(.int ((16 : Int32) + (18 : Int32)))])
  show Fin _ _ _ _ _ _ _ _ T11 (mkF m 7 #[vi (16 : Int32), vi (2 : Int32), vi (18 : Int32), .unset] [(.int ((16 : Int32) + (18 : Int32)))])
  rw [show ((16 : Int32) + (18 : Int32)) = (34 : Int32) from by decide]
  show Fin _ _ _ _ _ _ _ _ T11 (mkF m 7 #[vi (16 : Int32), vi (2 : Int32), vi (18 : Int32), .unset] [(.int (34 : Int32))])
  refine .go (fun _ k => XS.istoreN X11.here hx rfl (hb hby d20_7) rfl (l' := #[vi (16 : Int32), vi (2 : Int32), vi (18 : Int32), vi (34 : Int32)]) rfl k) ?_
  refine .go (fun _ k => XS.iconst X11.here hx rfl (hb hby d20_8) k) ?_
  refine .go (fun _ k => XS.iloadN X11.here hx rfl (hb hby d20_9) rfl k) ?_
  refine .go (fun _ k => XS.icmpNo X11.here hx rfl (hb hby d20_10) rfl (XT.ii_ge_f (by decide)) k) ?_
  show Fin _ _ _ _ _ _ _ _ T11 (mkF m 13 #[vi (16 : Int32), vi (2 : Int32), vi (18 : Int32), vi (34 : Int32)] [])
  refine .go (fun _ k => XS.iloadN X11.here hx rfl (hb hby d20_13) rfl k) ?_
  refine .go (fun _ k => X11.ldcI hx hown (mvT hZ (hw _ w_113)) rfl (hb hby d20_14) k) ?_
  refine .go (fun _ k => XS.icmpNo X11.here hx rfl (hb hby d20_16) rfl (XT.ii_gt_f (by decide)) k) ?_
  show Fin _ _ _ _ _ _ _ _ T11 (mkF m 19 #[vi (16 : Int32), vi (2 : Int32), vi (18 : Int32), vi (34 : Int32)] [])
  refine .go (fun _ k => XS.iloadN X11.here hx rfl (hb hby d20_19) rfl k) ?_
  show Fin _ _ _ _ _ _ _ _ T11 (mkF m 20 #[vi (16 : Int32), vi (2 : Int32), vi (18 : Int32), vi (34 : Int32)] [(.int (34 : Int32))])
  exact Fin.leaveN X11 e11 hlk (v := some (.int (34 : Int32))) (nvS hret) (by decide) (by decide) ⟨rfl, rfl, rfl⟩ (fun fs hr => retI X11 hx hret (hb hby d20_20) hr)
theorem rmNC (l : Launch) (Z : State) (a0 : Array Value) (hw : HW a0 Z) (n0 : Nat) (h0 : Heap) (O : Old Z n0 h0) (b d : Addr) (kd : ClassId) (G1 : Fld Z h0 b "java/lang/AbstractStringBuilder" "value" "[B" (.ref d)) (G2 : Fld Z h0 b "java/lang/AbstractStringBuilder" "coder" "B" (.int (0 : Int32))) (VD : Arv Z h0 d kd .byte (16 : Int32) (ivL (List.replicate 16 0)) (.int (0 : Int32))) :
    ConW FrameEnd l Z [] (⟨"java/lang/AbstractStringBuilder", "newCapacity", "(I)I"⟩ : MethodName) jdk_68_method_10_code 6 (some .int) ({ frames := 2, cells := 0, slots := 0, locals := 29 } : Room) #[(.ref b), (.int (18 : Int32))] h0 (Pure h0 (some (.int (34 : Int32)))) := by
  refine conOf (plainFor_of_name pn_java_lang_AbstractStringBuilder) ?_
  intro p e s m below mth cc s₁ X0 hx hby hml hown hnm hret hlk hZ e0
  have N0 := Fr.nil n0
  refine Fin.came (castTop (t := _) (by first | (simp [entryFrame, mkF, argsToLocals, Value.category]; done) | rfl) (Steps.refl _) : Steps p.tables e below (s₁.setTop (entryFrame m #[(.ref b), (.int (18 : Int32))] 6)) (s₁.setTop (mkF m 0 #[vr b, vi (18 : Int32), .unset, .unset, .unset, .unset] []))) ?_
  refine .go (fun _ k => XS.aloadN X0.here hx rfl (hb hby d19_0) rfl rfl k) ?_
  obtain ⟨T11, X11, e11, st11⟩ := getF X0 hx hZ hown (host := "") (Or.inl (hw _ w_68)) Via.refl e0 G1 (g := (mkF m 1 #[vr b, vi (18 : Int32), .unset, .unset, .unset, .unset] [(.ref b)])) rfl rfl (hb hby d19_1)
  refine Fin.go st11 ?_
  show Fin _ _ _ _ _ _ _ _ T11 (mkF m 4 #[vr b, vi (18 : Int32), .unset, .unset, .unset, .unset] [(.ref d)])
  obtain ⟨cz12, B12, q12, S12, M12, H12, G12⟩ := id VD
  refine Fin.go (fun _ k => X11.arraylength hx (by rw [e11]; exact B12.1) (State.isArrayOf_alike hZ.alike B12.2.1) (g := (mkF m 4 #[vr b, vi (18 : Int32), .unset, .unset, .unset, .unset] [(.ref d)])) rfl rfl (hb hby d19_4) _ k) ?_
  rw [len_of S12 M12]
  show Fin _ _ _ _ _ _ _ _ T11 (mkF m 5 #[vr b, vi (18 : Int32), .unset, .unset, .unset, .unset] [(.int (16 : Int32))])
  refine .go (fun _ k => XS.istoreN X11.here hx rfl (hb hby d19_5) rfl (l' := #[vr b, vi (18 : Int32), vi (16 : Int32), .unset, .unset, .unset]) rfl k) ?_
  refine .go (fun _ k => XS.iloadN X11.here hx rfl (hb hby d19_6) rfl k) ?_
  refine .go (fun _ k => XS.aloadN X11.here hx rfl (hb hby d19_7) rfl rfl k) ?_
  obtain ⟨T13, X13, e13, st13⟩ := getF X11 hx hZ hown (host := "") (Or.inl (hw _ w_70)) Via.refl e11 G2 (g := (mkF m 8 #[vr b, vi (18 : Int32), vi (16 : Int32), .unset, .unset, .unset] [(.ref b), (.int (18 : Int32))])) rfl rfl (hb hby d19_8)
  refine Fin.go st13 ?_
  show Fin _ _ _ _ _ _ _ _ T13 (mkF m 11 #[vr b, vi (18 : Int32), vi (16 : Int32), .unset, .unset, .unset] [(.int (0 : Int32)), (.int (18 : Int32))])
  refine .go (fun _ k => XT.ishl X13.here hx rfl (hb hby d19_11) rfl k) ?_
  show Fin _ _ _ _ _ _ _ _ T13 (mkF m 12 #[vr b, vi (18 : Int32), vi (16 : Int32), .unset, .unset, .unset] [(.int ((18 : Int32) <<< ((0 : Int32) &&& 31)))])
  show Fin _ _ _ _ _ _ _ _ T13 (mkF m 12 #[vr b, vi (18 : Int32), vi (16 : Int32), .unset, .unset, .unset] [(.int ((18 : Int32) <<< ((0 : Int32) &&& 31)))])
  rw [show ((18 : Int32) <<< ((0 : Int32) &&& 31)) = (18 : Int32) from by decide]
  show Fin _ _ _ _ _ _ _ _ T13 (mkF m 12 #[vr b, vi (18 : Int32), vi (16 : Int32), .unset, .unset, .unset] [(.int (18 : Int32))])
  refine .go (fun _ k => XS.istoreN X13.here hx rfl (hb hby d19_12) rfl (l' := #[vr b, vi (18 : Int32), vi (16 : Int32), vi (18 : Int32), .unset, .unset]) rfl k) ?_
  refine .go (fun _ k => XS.iloadN X13.here hx rfl (hb hby d19_13) rfl k) ?_
  refine .go (fun _ k => XS.iloadN X13.here hx rfl (hb hby d19_14) rfl k) ?_
  refine .go (fun _ k => XS.isub X13.here hx rfl (hb hby d19_15) rfl k) ?_
  show Fin _ _ _ _ _ _ _ _ T13 (mkF m 16 #[vr b, vi (18 : Int32), vi (16 : Int32), vi (18 : Int32), .unset, .unset] [(.int ((18 : Int32) - (16 : Int32)))])
  show Fin _ _ _ _ _ _ _ _ T13 (mkF m 16 #[vr b, vi (18 : Int32), vi (16 : Int32), vi (18 : Int32), .unset, .unset] [(.int ((18 : Int32) - (16 : Int32)))])
  rw [show ((18 : Int32) - (16 : Int32)) = (2 : Int32) from by decide]
  show Fin _ _ _ _ _ _ _ _ T13 (mkF m 16 #[vr b, vi (18 : Int32), vi (16 : Int32), vi (18 : Int32), .unset, .unset] [(.int (2 : Int32))])
  refine .go (fun _ k => XS.istore X13.here hx rfl (hb hby d19_16) rfl (l' := #[vr b, vi (18 : Int32), vi (16 : Int32), vi (18 : Int32), vi (2 : Int32), .unset]) rfl k) ?_
  refine .go (fun _ k => XS.iloadN X13.here hx rfl (hb hby d19_18) rfl k) ?_
  refine .go (fun _ k => XS.iload X13.here hx rfl (hb hby d19_19) rfl k) ?_
  refine .go (fun _ k => XS.iloadN X13.here hx rfl (hb hby d19_21) rfl k) ?_
  show Fin _ _ _ _ _ _ _ _ T13 (mkF m 22 #[vr b, vi (18 : Int32), vi (16 : Int32), vi (18 : Int32), vi (2 : Int32), .unset] [(.int (16 : Int32)), (.int (2 : Int32)), (.int (16 : Int32))])
  refine .go (fun _ k => XS.iconst X13.here hx rfl (hb hby d19_22) k) ?_
  refine .go (fun _ k => XS.aloadN X13.here hx rfl (hb hby d19_23) rfl rfl k) ?_
  obtain ⟨T14, X14, e14, st14⟩ := getF X13 hx hZ hown (host := "") (Or.inl (hw _ w_70)) Via.refl e13 G2 (g := (mkF m 24 #[vr b, vi (18 : Int32), vi (16 : Int32), vi (18 : Int32), vi (2 : Int32), .unset] [(.ref b), (.int (2 : Int32)), (.int (16 : Int32)), (.int (2 : Int32)), (.int (16 : Int32))])) rfl rfl (hb hby d19_24)
  refine Fin.go st14 ?_
  show Fin _ _ _ _ _ _ _ _ T14 (mkF m 27 #[vr b, vi (18 : Int32), vi (16 : Int32), vi (18 : Int32), vi (2 : Int32), .unset] [(.int (0 : Int32)), (.int (2 : Int32)), (.int (16 : Int32)), (.int (2 : Int32)), (.int (16 : Int32))])
  refine .go (fun _ k => XT.ishl X14.here hx rfl (hb hby d19_27) rfl k) ?_
  refine .go (fun _ k => XS.iadd X14.here hx rfl (hb hby d19_28) rfl k) ?_
  show Fin _ _ _ _ _ _ _ _ T14 (mkF m 29 #[vr b, vi (18 : Int32), vi (16 : Int32), vi (18 : Int32), vi (2 : Int32), .unset] [(.int ((16 : Int32) + ((2 : Int32) <<< ((0 : Int32) &&& 31)))), (.int (2 : Int32)), (.int (16 : Int32))])
  show Fin _ _ _ _ _ _ _ _ T14 (mkF m 29 #[vr b, vi (18 : Int32), vi (16 : Int32), vi (18 : Int32), vi (2 : Int32), .unset] [(.int ((16 : Int32) + ((2 : Int32) <<< ((0 : Int32) &&& 31)))), (.int (2 : Int32)), (.int (16 : Int32))])
  rw [show ((16 : Int32) + ((2 : Int32) <<< ((0 : Int32) &&& 31))) = (18 : Int32) from by decide]
  show Fin _ _ _ _ _ _ _ _ T14 (mkF m 29 #[vr b, vi (18 : Int32), vi (16 : Int32), vi (18 : Int32), vi (2 : Int32), .unset] [(.int (18 : Int32)), (.int (2 : Int32)), (.int (16 : Int32))])
  obtain ⟨v15, T15, L15, X15, q15, st15⟩ := callSt X14 hx hZ hown (hw _ w_105) (hw _ w_106) (hw _ w_107) (hw _ w_108) (by decide) (W := 0) (rmNL l Z a0 hw n0 h0 O) e14 (by decide) (by decide) (by decide) (by decide) (g := (mkF m 29 #[vr b, vi (18 : Int32), vi (16 : Int32), vi (18 : Int32), vi (2 : Int32), .unset] [(.int (18 : Int32)), (.int (2 : Int32)), (.int (16 : Int32))])) rfl (by rw [hml]; rfl) (argsL := [(.int (16 : Int32)), (.int (2 : Int32)), (.int (18 : Int32))]) (rest := []) (lenOf pd_oIIIcI rfl) rfl (wk rfl rfl) (hb hby d19_29)
  obtain ⟨rfl, e15, rfl⟩ := q15
  have N15 := Fr.app N0 (Fr.nil n0)
  refine Fin.go st15 ?_
  show Fin _ _ _ _ _ _ _ _ T15 (mkF m 32 #[vr b, vi (18 : Int32), vi (16 : Int32), vi (18 : Int32), vi (2 : Int32), .unset] [(.int (34 : Int32))])
  refine .go (fun _ k => XS.istore X15.here hx rfl (hb hby d19_32) rfl (l' := #[vr b, vi (18 : Int32), vi (16 : Int32), vi (18 : Int32), vi (2 : Int32), vi (34 : Int32)]) rfl k) ?_
  refine .go (fun _ k => XS.iload X15.here hx rfl (hb hby d19_34) rfl k) ?_
  refine .go (fun _ k => X15.ldcI hx hown (mvT hZ (hw _ w_114)) rfl (hb hby d19_36) k) ?_
  refine .go (fun _ k => XS.icmpYes X15.here hx rfl (pc0 := 38) (pc' := 51) rfl (hb hby d19_38) rfl (XT.ii_ne_t (by decide)) (by decide) (by decide) k) ?_
  show Fin _ _ _ _ _ _ _ _ T15 (mkF m 51 #[vr b, vi (18 : Int32), vi (16 : Int32), vi (18 : Int32), vi (2 : Int32), vi (34 : Int32)] [])
  refine .go (fun _ k => XS.iload X15.here hx rfl (hb hby d19_51) rfl k) ?_
  refine .go (fun _ k => XS.aloadN X15.here hx rfl (hb hby d19_53) rfl rfl k) ?_
  obtain ⟨T16, X16, e16, st16⟩ := getF X15 hx hZ hown (host := "") (Or.inl (hw _ w_70)) Via.refl e15 G2 (g := (mkF m 54 #[vr b, vi (18 : Int32), vi (16 : Int32), vi (18 : Int32), vi (2 : Int32), vi (34 : Int32)] [(.ref b), (.int (34 : Int32))])) rfl rfl (hb hby d19_54)
  refine Fin.go st16 ?_
  show Fin _ _ _ _ _ _ _ _ T16 (mkF m 57 #[vr b, vi (18 : Int32), vi (16 : Int32), vi (18 : Int32), vi (2 : Int32), vi (34 : Int32)] [(.int (0 : Int32)), (.int (34 : Int32))])
  refine .go (fun _ k => XT.ishr X16.here hx rfl (hb hby d19_57) rfl k) ?_
  show Fin _ _ _ _ _ _ _ _ T16 (mkF m 58 #[vr b, vi (18 : Int32), vi (16 : Int32), vi (18 : Int32), vi (2 : Int32), vi (34 : Int32)] [(.int ((34 : Int32) >>> ((0 : Int32) &&& 31)))])
  show Fin _ _ _ _ _ _ _ _ T16 (mkF m 58 #[vr b, vi (18 : Int32), vi (16 : Int32), vi (18 : Int32), vi (2 : Int32), vi (34 : Int32)] [(.int ((34 : Int32) >>> ((0 : Int32) &&& 31)))])
  rw [show ((34 : Int32) >>> ((0 : Int32) &&& 31)) = (34 : Int32) from by decide]
  show Fin _ _ _ _ _ _ _ _ T16 (mkF m 58 #[vr b, vi (18 : Int32), vi (16 : Int32), vi (18 : Int32), vi (2 : Int32), vi (34 : Int32)] [(.int (34 : Int32))])
  exact Fin.leaveN X16 e16 hlk (v := some (.int (34 : Int32))) (nvS hret) (by decide) (by decide) ⟨rfl, rfl, rfl⟩ (fun fs hr => retI X16 hx hret (hb hby d19_58) hr)
theorem rmCO (l : Launch) (Z : State) (a0 : Array Value) (hw : HW a0 Z) (n0 : Nat) (h0 : Heap) (O : Old Z n0 h0) (d : Addr) (kd : ClassId) (VD : Arv Z h0 d kd .byte (Int32.ofNat 16) (ivL (List.replicate 16 0)) (.int (0 : Int32))) :
    ConW FrameEnd l Z [] (⟨"java/util/Arrays", "copyOf", "([BI)[B"⟩ : MethodName) jdk_65_method_121_code 3 (some (.array .byte)) ({ frames := 1, cells := 1, slots := 34, locals := 60 } : Room) #[(.ref d), (.int (Int32.ofNat 34))] h0 (fun v h L => ∃ dn kn, v = some (.ref dn) ∧ Fr n0 L ∧ Keep h0 h [] ∧ Arv Z h dn kn .byte (Int32.ofNat 34) (ivL (List.replicate 34 0)) (.int (0 : Int32)) ∧ h0.size ≤ dn) := by
  refine conOf (plainFor_of_name pn_java_util_Arrays) ?_
  intro p e s m below mth cc s₁ X0 hx hby hml hown hnm hret hlk hZ e0
  have N0 := Fr.nil n0
  have K0 := Keep.refl h0 ([] : List Addr)
  refine Fin.came (castTop (t := _) (by first | (simp [entryFrame, mkF, argsToLocals, Value.category]; done) | rfl) (Steps.refl _) : Steps p.tables e below (s₁.setTop (entryFrame m #[(.ref d), (.int (Int32.ofNat 34))] 3)) (s₁.setTop (mkF m 0 #[vr d, vi (Int32.ofNat 34), .unset] []))) ?_
  refine .go (fun _ k => XS.iloadN X0.here hx rfl (hb hby d22_0) rfl k) ?_
  refine .go (fun _ k => XS.aloadN X0.here hx rfl (hb hby d22_1) rfl rfl k) ?_
  obtain ⟨cz11, B11, q11, S11, M11, H11, G11⟩ := id VD
  refine Fin.go (fun _ k => X0.arraylength hx (by rw [e0]; exact B11.1) (State.isArrayOf_alike hZ.alike B11.2.1) (g := (mkF m 2 #[vr d, vi (Int32.ofNat 34), .unset] [(.ref d), (.int (Int32.ofNat 34))])) rfl rfl (hb hby d22_2) _ k) ?_
  rw [len_of S11 M11]
  show Fin _ _ _ _ _ _ _ _ s₁ (mkF m 3 #[vr d, vi (Int32.ofNat 34), .unset] [(.int (Int32.ofNat 16)), (.int (Int32.ofNat 34))])
  refine .go (fun _ k => XS.icmpYes X0.here hx rfl (pc0 := 3) (pc' := 14) rfl (hb hby d22_3) rfl (XT.ii_ne_t (by decide)) (by decide) (by decide) k) ?_
  show Fin _ _ _ _ _ _ _ _ s₁ (mkF m 14 #[vr d, vi (Int32.ofNat 34), .unset] [])
  refine .go (fun _ k => XS.iloadN X0.here hx rfl (hb hby d22_14) rfl k) ?_
  obtain ⟨T12, h12, k12, X12, e12, E12, A12, st12⟩ := newP X0 hx hZ (aty := .byte) (hw _ w_15) e0 (g := (mkF m 15 #[vr d, vi (Int32.ofNat 34), .unset] [(.int (Int32.ofNat 34))])) rfl (hb hby d22_15) rfl (on_g (i := 34) (by omega)) (cap := 34) (by rw [on_n (by omega)]; omega) (by decide) (by decide) (by decide)
  obtain ⟨a12, g12⟩ : ∃ z, z = h0.size := ⟨_, rfl⟩
  rw [← g12] at A12 st12
  refine Fin.go st12 ?_
  have O12 := O.ext E12
  have K12 := K0.ext E12
  have n12 : n0 ≤ a12 := by have := O.2.1; have := O.1; omega
  have z12 : h0.size ≤ a12 := by have := K0.1; omega
  have V12 : Arv Z h12 a12 k12 .byte (Int32.ofNat 34) (ivL (List.replicate 34 0)) (.int (0 : Int32)) := by rw [ivr]; exact (Arv.new A12 (on_g (i := 34) (by omega))).pad (pad_rep [] (.int (0 : Int32)) 34)
  show Fin _ _ _ _ _ _ _ _ T12 (mkF m 17 #[vr d, vi (Int32.ofNat 34), .unset] [(.ref a12)])
  refine .go (fun _ k => XS.astoreN X12.here hx rfl (hb hby d22_17) rfl rfl (l' := #[vr d, vi (Int32.ofNat 34), vr a12]) rfl k) ?_
  refine .go (fun _ k => XS.aloadN X12.here hx rfl (hb hby d22_18) rfl rfl k) ?_
  refine .go (fun _ k => XS.iconst X12.here hx rfl (hb hby d22_19) k) ?_
  refine .go (fun _ k => XS.aloadN X12.here hx rfl (hb hby d22_20) rfl rfl k) ?_
  show Fin _ _ _ _ _ _ _ _ T12 (mkF m 21 #[vr d, vi (Int32.ofNat 34), vr a12] [(.ref a12), (.int (0 : Int32)), (.ref d)])
  refine .go (fun _ k => XS.iconst X12.here hx rfl (hb hby d22_21) k) ?_
  refine .go (fun _ k => XS.aloadN X12.here hx rfl (hb hby d22_22) rfl rfl k) ?_
  obtain ⟨cz13, B13, q13, S13, M13, H13, G13⟩ := id (VD.ext E12)
  refine Fin.go (fun _ k => X12.arraylength hx (by rw [e12]; exact B13.1) (State.isArrayOf_alike hZ.alike B13.2.1) (g := (mkF m 23 #[vr d, vi (Int32.ofNat 34), vr a12] [(.ref d), (.int (0 : Int32)), (.ref a12), (.int (0 : Int32)), (.ref d)])) rfl rfl (hb hby d22_23) _ k) ?_
  rw [len_of S13 M13]
  show Fin _ _ _ _ _ _ _ _ T12 (mkF m 24 #[vr d, vi (Int32.ofNat 34), vr a12] [(.int (Int32.ofNat 16)), (.int (0 : Int32)), (.ref a12), (.int (0 : Int32)), (.ref d)])
  refine .go (fun _ k => XS.iloadN X12.here hx rfl (hb hby d22_24) rfl k) ?_
  obtain ⟨v14, T14, L14, X14, q14, st14⟩ := callSt X12 hx hZ hown (hw _ w_119) (hw _ w_120) (hw _ w_111) (hw _ w_121) (by decide) (W := 4) (rmMinR l Z a0 hw n0 h12 O12 16 34 (by decide) (by decide)) e12 (by decide) (by decide) (by decide) (by decide) (g := (mkF m 25 #[vr d, vi (Int32.ofNat 34), vr a12] [(.int (Int32.ofNat 34)), (.int (Int32.ofNat 16)), (.int (0 : Int32)), (.ref a12), (.int (0 : Int32)), (.ref d)])) rfl (by rw [hml]; rfl) (argsL := [(.int (Int32.ofNat 16)), (.int (Int32.ofNat 34))]) (rest := [(.int (0 : Int32)), (.ref a12), (.int (0 : Int32)), (.ref d)]) (lenOf pd_oIIcI rfl) rfl (wk rfl rfl) (hb hby d22_25)
  obtain ⟨rfl, e14, rfl⟩ := q14
  have N14 := Fr.app N0 (Fr.nil n0)
  refine Fin.go st14 ?_
  show Fin _ _ _ _ _ _ _ _ T14 (mkF m 28 #[vr d, vi (Int32.ofNat 34), vr a12] [(.int (Int32.ofNat 16)), (.int (0 : Int32)), (.ref a12), (.int (0 : Int32)), (.ref d)])
  obtain ⟨T15, h15, L15, X15, e15, Nc15, Kq15, Vq15, st15⟩ := cpA X14 hx hZ hown (hw _ w_122) (hw _ w_125) (hw _ w_123) (hw _ w_124) e14 (VD.ext E12) V12 (Or.inl ⟨rfl, rfl⟩) (by decide) (by decide) (by decide) (by decide) (by decide) rfl (by decide) N14 n12 (g := (mkF m 28 #[vr d, vi (Int32.ofNat 34), vr a12] [(.int (Int32.ofNat 16)), (.int (0 : Int32)), (.ref a12), (.int (0 : Int32)), (.ref d)])) rfl (by rw [hml]; rfl) rfl (hb hby d22_28) (by decide) (W := 0) (wk rfl rfl) (by decide)
  have V15 : Arv Z h15 a12 k12 .byte (Int32.ofNat 34) (ivL (List.replicate 34 0)) (.int (0 : Int32)) := by have q := Vq15; rw [i0, on_n (i := 16) (by decide), cpL _ _ _ _ _ (by decide)] at q; exact q
  have O15 := O12.keep Kq15 (allS n12 all0)
  have K15 := K12.trans Kq15 (allS (Or.inr z12) all0)
  refine Fin.go st15 ?_
  have V15_d := ((VD.ext E12).keep Kq15 (ninS (Nat.ne_of_lt (Nat.lt_of_lt_of_eq VD.lt g12.symm)) nin0))
  show Fin _ _ _ _ _ _ _ _ T15 (mkF m 31 #[vr d, vi (Int32.ofNat 34), vr a12] [])
  refine .go (fun _ k => XS.aloadN X15.here hx rfl (hb hby d22_31) rfl rfl k) ?_
  exact Fin.leaveN X15 e15 hlk (v := some (.ref a12)) (nvS hret) (by decide) (by decide) ⟨a12, k12, rfl, Nc15, K15, V15, z12⟩ (fun fs hr => retOut X15 hx hret rfl (Or.inr (Or.inr (Or.inr (Or.inr ⟨rfl, rfl, rfl⟩)))) (hb hby d22_32) hr)
theorem rmEnsG (l : Launch) (Z : State) (a0 : Array Value) (hw : HW a0 Z) (n0 : Nat) (h0 : Heap) (O : Old Z n0 h0) (b d : Addr) (kd : ClassId) (B : Exa Z h0 b "java/lang/StringBuilder") (G1 : Fld Z h0 b "java/lang/AbstractStringBuilder" "value" "[B" (.ref d)) (G2 : Fld Z h0 b "java/lang/AbstractStringBuilder" "coder" "B" (.int (0 : Int32))) (G3 : Fld Z h0 b "java/lang/AbstractStringBuilder" "count" "I" (.int (0 : Int32))) (G4 : Fld Z h0 b "java/lang/AbstractStringBuilder" "maybeLatin1" "Z" (.int (0 : Int32))) (VD : Arv Z h0 d kd .byte (16 : Int32) (ivL (List.replicate 16 0)) (.int (0 : Int32))) (nb : n0 ≤ b) :
    ConW FrameEnd l Z [] (⟨"java/lang/AbstractStringBuilder", "ensureCapacityInternal", "(I)V"⟩ : MethodName) jdk_68_method_9_code 3 none ({ frames := 3, cells := 1, slots := 34, locals := 75 } : Room) #[(.ref b), (.int (18 : Int32))] h0 (fun v h L => v = none ∧ Fr n0 L ∧ Keep h0 h [b] ∧ ∃ dn kn, Exa Z h b "java/lang/StringBuilder" ∧ Fld Z h b "java/lang/AbstractStringBuilder" "value" "[B" (.ref dn) ∧ Fld Z h b "java/lang/AbstractStringBuilder" "coder" "B" (.int (0 : Int32)) ∧ Fld Z h b "java/lang/AbstractStringBuilder" "count" "I" (.int (0 : Int32)) ∧ Fld Z h b "java/lang/AbstractStringBuilder" "maybeLatin1" "Z" (.int (0 : Int32)) ∧ Arv Z h dn kn .byte (Int32.ofNat 34) (ivL (List.replicate 34 0)) (.int (0 : Int32)) ∧ h0.size ≤ dn) := by
  refine conOf (plainFor_of_name pn_java_lang_AbstractStringBuilder) ?_
  intro p e s m below mth cc s₁ X0 hx hby hml hown hnm hret hlk hZ e0
  have N0 := Fr.nil n0
  have K0 := Keep.refl h0 ([b] : List Addr)
  refine Fin.came (castTop (t := _) (by first | (simp [entryFrame, mkF, argsToLocals, Value.category]; done) | rfl) (Steps.refl _) : Steps p.tables e below (s₁.setTop (entryFrame m #[(.ref b), (.int (18 : Int32))] 3)) (s₁.setTop (mkF m 0 #[vr b, vi (18 : Int32), .unset] []))) ?_
  refine .go (fun _ k => XS.aloadN X0.here hx rfl (hb hby d18_0) rfl rfl k) ?_
  obtain ⟨T11, X11, e11, st11⟩ := getF X0 hx hZ hown (host := "") (Or.inl (hw _ w_68)) Via.refl e0 G1 (g := (mkF m 1 #[vr b, vi (18 : Int32), .unset] [(.ref b)])) rfl rfl (hb hby d18_1)
  refine Fin.go st11 ?_
  show Fin _ _ _ _ _ _ _ _ T11 (mkF m 4 #[vr b, vi (18 : Int32), .unset] [(.ref d)])
  obtain ⟨cz12, B12, q12, S12, M12, H12, G12⟩ := id VD
  refine Fin.go (fun _ k => X11.arraylength hx (by rw [e11]; exact B12.1) (State.isArrayOf_alike hZ.alike B12.2.1) (g := (mkF m 4 #[vr b, vi (18 : Int32), .unset] [(.ref d)])) rfl rfl (hb hby d18_4) _ k) ?_
  rw [len_of S12 M12]
  show Fin _ _ _ _ _ _ _ _ T11 (mkF m 5 #[vr b, vi (18 : Int32), .unset] [(.int (16 : Int32))])
  refine .go (fun _ k => XS.aloadN X11.here hx rfl (hb hby d18_5) rfl rfl k) ?_
  obtain ⟨T13, X13, e13, st13⟩ := getF X11 hx hZ hown (host := "") (Or.inl (hw _ w_70)) Via.refl e11 G2 (g := (mkF m 6 #[vr b, vi (18 : Int32), .unset] [(.ref b), (.int (16 : Int32))])) rfl rfl (hb hby d18_6)
  refine Fin.go st13 ?_
  show Fin _ _ _ _ _ _ _ _ T13 (mkF m 9 #[vr b, vi (18 : Int32), .unset] [(.int (0 : Int32)), (.int (16 : Int32))])
  refine .go (fun _ k => XT.ishr X13.here hx rfl (hb hby d18_9) rfl k) ?_
  show Fin _ _ _ _ _ _ _ _ T13 (mkF m 10 #[vr b, vi (18 : Int32), .unset] [(.int ((16 : Int32) >>> ((0 : Int32) &&& 31)))])
  show Fin _ _ _ _ _ _ _ _ T13 (mkF m 10 #[vr b, vi (18 : Int32), .unset] [(.int ((16 : Int32) >>> ((0 : Int32) &&& 31)))])
  rw [show ((16 : Int32) >>> ((0 : Int32) &&& 31)) = (16 : Int32) from by decide]
  show Fin _ _ _ _ _ _ _ _ T13 (mkF m 10 #[vr b, vi (18 : Int32), .unset] [(.int (16 : Int32))])
  refine .go (fun _ k => XS.istoreN X13.here hx rfl (hb hby d18_10) rfl (l' := #[vr b, vi (18 : Int32), vi (16 : Int32)]) rfl k) ?_
  refine .go (fun _ k => XS.iloadN X13.here hx rfl (hb hby d18_11) rfl k) ?_
  refine .go (fun _ k => XS.iloadN X13.here hx rfl (hb hby d18_12) rfl k) ?_
  refine .go (fun _ k => XS.isub X13.here hx rfl (hb hby d18_13) rfl k) ?_
  show Fin _ _ _ _ _ _ _ _ T13 (mkF m 14 #[vr b, vi (18 : Int32), vi (16 : Int32)] [(.int ((18 : Int32) - (16 : Int32)))])
  refine .go (fun _ k => XS.ifNo X13.here hx rfl (hb hby d18_14) rfl (XT.i0_le_f (by decide)) k) ?_
  show Fin _ _ _ _ _ _ _ _ T13 (mkF m 17 #[vr b, vi (18 : Int32), vi (16 : Int32)] [])
  refine .go (fun _ k => XS.aloadN X13.here hx rfl (hb hby d18_17) rfl rfl k) ?_
  refine .go (fun _ k => XS.aloadN X13.here hx rfl (hb hby d18_18) rfl rfl k) ?_
  obtain ⟨T14, X14, e14, st14⟩ := getF X13 hx hZ hown (host := "") (Or.inl (hw _ w_68)) Via.refl e13 G1 (g := (mkF m 19 #[vr b, vi (18 : Int32), vi (16 : Int32)] [(.ref b), (.ref b)])) rfl rfl (hb hby d18_19)
  refine Fin.go st14 ?_
  show Fin _ _ _ _ _ _ _ _ T14 (mkF m 22 #[vr b, vi (18 : Int32), vi (16 : Int32)] [(.ref d), (.ref b)])
  refine .go (fun _ k => XS.aloadN X14.here hx rfl (hb hby d18_22) rfl rfl k) ?_
  refine .go (fun _ k => XS.iloadN X14.here hx rfl (hb hby d18_23) rfl k) ?_
  obtain ⟨v15, T15, L15, X15, q15, st15⟩ := callVt X14 hx hZ (y := (⟨"java/lang/AbstractStringBuilder", "newCapacity", "(I)I"⟩ : MethodName)) hown (hw _ w_100) (declOf (hw _ w_101) (hw _ w_104)) (hw _ w_103) (hw _ w_101) (hw _ w_64) (hw _ w_104) (by decide) (W := 2) (rmNC l Z a0 hw n0 h0 O b d kd G1 G2 VD) e14 B (by decide) (by decide) (by decide) (by decide) (g := (mkF m 24 #[vr b, vi (18 : Int32), vi (16 : Int32)] [(.int (18 : Int32)), (.ref b), (.ref d), (.ref b)])) rfl (by rw [hml]; rfl) (argsL := [(.int (18 : Int32))]) (rest := [(.ref d), (.ref b)]) (lenOf pd_oIcI rfl) rfl (wk rfl rfl) (hb hby d18_24)
  obtain ⟨rfl, e15, rfl⟩ := q15
  have N15 := Fr.app N0 (Fr.nil n0)
  refine Fin.go st15 ?_
  show Fin _ _ _ _ _ _ _ _ T15 (mkF m 27 #[vr b, vi (18 : Int32), vi (16 : Int32)] [(.int (34 : Int32)), (.ref d), (.ref b)])
  refine .go (fun _ k => XS.aloadN X15.here hx rfl (hb hby d18_27) rfl rfl k) ?_
  obtain ⟨T16, X16, e16, st16⟩ := getF X15 hx hZ hown (host := "") (Or.inl (hw _ w_70)) Via.refl e15 G2 (g := (mkF m 28 #[vr b, vi (18 : Int32), vi (16 : Int32)] [(.ref b), (.int (34 : Int32)), (.ref d), (.ref b)])) rfl rfl (hb hby d18_28)
  refine Fin.go st16 ?_
  show Fin _ _ _ _ _ _ _ _ T16 (mkF m 31 #[vr b, vi (18 : Int32), vi (16 : Int32)] [(.int (0 : Int32)), (.int (34 : Int32)), (.ref d), (.ref b)])
  refine .go (fun _ k => XT.ishl X16.here hx rfl (hb hby d18_31) rfl k) ?_
  show Fin _ _ _ _ _ _ _ _ T16 (mkF m 32 #[vr b, vi (18 : Int32), vi (16 : Int32)] [(.int ((34 : Int32) <<< ((0 : Int32) &&& 31))), (.ref d), (.ref b)])
  show Fin _ _ _ _ _ _ _ _ T16 (mkF m 32 #[vr b, vi (18 : Int32), vi (16 : Int32)] [(.int ((34 : Int32) <<< ((0 : Int32) &&& 31))), (.ref d), (.ref b)])
  rw [show ((34 : Int32) <<< ((0 : Int32) &&& 31)) = (Int32.ofNat 34) from by decide]
  show Fin _ _ _ _ _ _ _ _ T16 (mkF m 32 #[vr b, vi (18 : Int32), vi (16 : Int32)] [(.int (Int32.ofNat 34)), (.ref d), (.ref b)])
  obtain ⟨v17, T17, L17, X17, q17, st17⟩ := callSt X16 hx hZ hown (hw _ w_115) (hw _ w_116) (hw _ w_117) (hw _ w_118) (by decide) (W := 1) (rmCO l Z a0 hw n0 h0 O d kd VD) e16 (by decide) (by decide) (by decide) (by decide) (g := (mkF m 32 #[vr b, vi (18 : Int32), vi (16 : Int32)] [(.int (Int32.ofNat 34)), (.ref d), (.ref b)])) rfl (by rw [hml]; rfl) (argsL := [(.ref d), (.int (Int32.ofNat 34))]) (rest := [(.ref b)]) (lenOf pd_oABIcAB rfl) rfl (wk rfl rfl) (hb hby d18_32)
  obtain ⟨d17, kd17, rfl, Nq17, Kq17, V17, zd17⟩ := q17
  have N17 := Fr.app N15 Nq17
  have O17 := O.keep Kq17 all0
  have K17 := K0.trans Kq17 all0
  refine Fin.go st17 ?_
  show Fin _ _ _ _ _ _ _ _ T17 (mkF m 35 #[vr b, vi (18 : Int32), vi (16 : Int32)] [(.ref d17), (.ref b)])
  have nzd17 : n0 ≤ d17 := Nat.le_trans (by have := O.1; have := O.2.1; omega) zd17
  have hzd17 : h0.size ≤ d17 := Nat.le_trans K0.1 zd17
  obtain ⟨T18, h18, X18, e18, W18, st18⟩ := putF X17 hx hZ hown (host := "") (Or.inl (hw _ w_68)) Via.refl (rfl : T17.heap = T17.heap) (G1.keep Kq17 nin0) (B.keep Kq17) (Or.inl (hw _ w_69)) (hw _ w_55) (ty := (.array .byte)) (by decide) rfl rfl (g := (mkF m 35 #[vr b, vi (18 : Int32), vi (16 : Int32)] [(.ref d17), (.ref b)])) rfl rfl (hb hby d18_35)
  refine Fin.go st18 ?_
  have N18 := Fr.snoc X18 N17 nb
  have O18 := O17.wr W18 nb
  have K18 := K17.wr W18 (Or.inl (List.mem_of_getElem? (i := 0) rfl))
  have F18_b_coder := ((G2.keep Kq17 nin0).other W18 (Or.inr (slot_ne (Or.inl (hw _ w_71)) (Or.inl (hw _ w_69)) (by decide) (t := .byte) (t' := (.array .byte)) (by decide) (by decide))))
  have F18_b_count := ((G3.keep Kq17 nin0).other W18 (Or.inr (slot_ne (Or.inl (hw _ w_94)) (Or.inl (hw _ w_69)) (by decide) (t := .int) (t' := (.array .byte)) (by decide) (by decide))))
  have F18_b_maybeLatin1 := ((G4.keep Kq17 nin0).other W18 (Or.inr (slot_ne (Or.inl (hw _ w_294)) (Or.inl (hw _ w_69)) (by decide) (t := .boolean) (t' := (.array .byte)) (by decide) (by decide))))
  have V18_d17 := (V17.other W18 (Ne.symm (Nat.ne_of_lt (Nat.lt_of_lt_of_le B.lt zd17))))
  show Fin _ _ _ _ _ _ _ _ T18 (mkF m 38 #[vr b, vi (18 : Int32), vi (16 : Int32)] [])
  exact Fin.leaveN X18 e18 hlk (v := none) (fun _ => rfl) (by decide) (by decide) ⟨rfl, N18, K18, d17, kd17, ((B.keep Kq17).wr W18), ((G1.keep Kq17 nin0).same W18), F18_b_coder, F18_b_count, F18_b_maybeLatin1, V18_d17, hzd17⟩ (fun fs hr => X18.returnOut hx hret (hb hby d18_38) hr)
theorem rmCFI (l : Launch) (Z : State) (a0 : Array Value) (hw : HW a0 Z) (n0 : Nat) (h0 : Heap) (O : Old Z n0 h0) (o n z : Nat) (hz : o + n ≤ z) (hz' : z ≤ 64) (fm : Value) (hfm : fm.isRef = true) :
    ConW FrameEnd l Z [] (⟨"jdk/internal/util/Preconditions", "checkFromIndexSize", "(IIILjava/util/function/BiFunction;)I"⟩ : MethodName) jdk_41_method_13_code 4 (some .int) ({ frames := 0, cells := 0, slots := 0, locals := 0 } : Room) #[(.int (Int32.ofNat o)), (.int (Int32.ofNat n)), (.int (Int32.ofNat z)), fm] h0 (Pure h0 (some (.int (Int32.ofNat o)))) := by
  refine conOf (plainFor_of_name pn_jdk_internal_util_Preconditions) ?_
  intro p e s m below mth cc s₁ X0 hx hby hml hown hnm hret hlk hZ e0
  have N0 := Fr.nil n0
  refine Fin.came (castTop (t := _) (by rcases ref_cases hfm with rfl | ⟨_, rfl⟩ <;> rfl) (Steps.refl _) : Steps p.tables e below (s₁.setTop (entryFrame m #[(.int (Int32.ofNat o)), (.int (Int32.ofNat n)), (.int (Int32.ofNat z)), fm] 4)) (s₁.setTop (mkF m 0 #[vi (Int32.ofNat o), vi (Int32.ofNat n), vi (Int32.ofNat z), .val fm] []))) ?_
  refine .go (fun _ k => XS.iloadN X0.here hx rfl (hb hby d57_0) rfl k) ?_
  refine .go (fun _ k => XS.iloadN X0.here hx rfl (hb hby d57_1) rfl k) ?_
  refine .go (fun _ k => XT.ior X0.here hx rfl (hb hby d57_2) rfl k) ?_
  refine .go (fun _ k => XS.iloadN X0.here hx rfl (hb hby d57_3) rfl k) ?_
  show Fin _ _ _ _ _ _ _ _ s₁ (mkF m 4 #[vi (Int32.ofNat o), vi (Int32.ofNat n), vi (Int32.ofNat z), .val fm] [(.int (Int32.ofNat n)), (.int ((Int32.ofNat z) ||| (Int32.ofNat o)))])
  refine .go (fun _ k => XT.ior X0.here hx rfl (hb hby d57_4) rfl k) ?_
  refine .go (fun _ k => XS.ifNo X0.here hx rfl (hb hby d57_5) rfl (XT.i0_lt_f (or_nn (or_nn (on_g (i := z) (by omega)) (on_g (i := o) (by omega))) (on_g (i := n) (by omega)))) k) ?_
  show Fin _ _ _ _ _ _ _ _ s₁ (mkF m 8 #[vi (Int32.ofNat o), vi (Int32.ofNat n), vi (Int32.ofNat z), .val fm] [])
  refine .go (fun _ k => XS.iloadN X0.here hx rfl (hb hby d57_8) rfl k) ?_
  refine .go (fun _ k => XS.iloadN X0.here hx rfl (hb hby d57_9) rfl k) ?_
  refine .go (fun _ k => XS.iloadN X0.here hx rfl (hb hby d57_10) rfl k) ?_
  refine .go (fun _ k => XS.isub X0.here hx rfl (hb hby d57_11) rfl k) ?_
  show Fin _ _ _ _ _ _ _ _ s₁ (mkF m 12 #[vi (Int32.ofNat o), vi (Int32.ofNat n), vi (Int32.ofNat z), .val fm] [(.int ((Int32.ofNat z) - (Int32.ofNat o))), (.int (Int32.ofNat n))])
  refine .go (fun _ k => XS.icmpYes X0.here hx rfl (pc0 := 12) (pc' := 23) rfl (hb hby d57_12) rfl (XT.ii_le_t (on_sub_ge hz (by omega))) (by decide) (by decide) k) ?_
  show Fin _ _ _ _ _ _ _ _ s₁ (mkF m 23 #[vi (Int32.ofNat o), vi (Int32.ofNat n), vi (Int32.ofNat z), .val fm] [])
  refine .go (fun _ k => XS.iloadN X0.here hx rfl (hb hby d57_23) rfl k) ?_
  exact Fin.leaveN X0 e0 hlk (v := some (.int (Int32.ofNat o))) (nvS hret) (by decide) (by decide) ⟨rfl, rfl, rfl⟩ (fun fs hr => retI X0 hx hret (hb hby d57_24) hr)
theorem rmCB3 (l : Launch) (Z : State) (a0 : Array Value) (hw : HW a0 Z) (n0 : Nat) (h0 : Heap) (O : Old Z n0 h0) (o n z : Nat) (hz : o + n ≤ z) (hz' : z ≤ 64) (fm : Value) (hfm : fm.isRef = true) (S_fm : SFm Z fm) :
    ConW FrameEnd l Z [] (⟨"java/lang/String", "checkBoundsOffCount", "(III)I"⟩ : MethodName) jdk_42_method_157_code 3 (some .int) ({ frames := 1, cells := 0, slots := 0, locals := 15 } : Room) #[(.int (Int32.ofNat o)), (.int (Int32.ofNat n)), (.int (Int32.ofNat z))] h0 (Pure h0 (some (.int (Int32.ofNat o)))) := by
  refine conOf (plainFor_of_name pn_java_lang_String) ?_
  intro p e s m below mth cc s₁ X0 hx hby hml hown hnm hret hlk hZ e0
  have N0 := Fr.nil n0
  refine Fin.came (castTop (t := _) (by first | (simp [entryFrame, mkF, argsToLocals, Value.category]; done) | rfl) (Steps.refl _) : Steps p.tables e below (s₁.setTop (entryFrame m #[(.int (Int32.ofNat o)), (.int (Int32.ofNat n)), (.int (Int32.ofNat z))] 3)) (s₁.setTop (mkF m 0 #[vi (Int32.ofNat o), vi (Int32.ofNat n), vi (Int32.ofNat z)] []))) ?_
  refine .go (fun _ k => XS.iloadN X0.here hx rfl (hb hby d56_0) rfl k) ?_
  refine .go (fun _ k => XS.iloadN X0.here hx rfl (hb hby d56_1) rfl k) ?_
  refine .go (fun _ k => XS.iloadN X0.here hx rfl (hb hby d56_2) rfl k) ?_
  obtain ⟨T11, X11, e11, st11⟩ := getS2 X0 hx hZ hown (host := "") (Or.inl (hw _ w_287)) Via.refl e0 (S_fm.ext O.2) (g := (mkF m 3 #[vi (Int32.ofNat o), vi (Int32.ofNat n), vi (Int32.ofNat z)] [(.int (Int32.ofNat z)), (.int (Int32.ofNat n)), (.int (Int32.ofNat o))])) rfl (hb hby d56_3)
  refine Fin.go st11 ?_
  show Fin _ _ _ _ _ _ _ _ T11 (mkF m 6 #[vi (Int32.ofNat o), vi (Int32.ofNat n), vi (Int32.ofNat z)] [fm, (.int (Int32.ofNat z)), (.int (Int32.ofNat n)), (.int (Int32.ofNat o))])
  obtain ⟨v12, T12, L12, X12, q12, st12⟩ := callSt X11 hx hZ hown (hw _ w_289) (hw _ w_290) (hw _ w_288) (hw _ w_291) (by decide) (W := 0) (rmCFI l Z a0 hw n0 h0 O o n z hz hz' fm hfm) e11 (by decide) (by decide) (by decide) (by decide) (g := (mkF m 6 #[vi (Int32.ofNat o), vi (Int32.ofNat n), vi (Int32.ofNat z)] [fm, (.int (Int32.ofNat z)), (.int (Int32.ofNat n)), (.int (Int32.ofNat o))])) rfl (by rw [hml]; rfl) (argsL := [(.int (Int32.ofNat o)), (.int (Int32.ofNat n)), (.int (Int32.ofNat z)), fm]) (rest := []) (lenOf pd_oIIILjava_util_function_BiFunction_cI rfl) rfl (wk rfl rfl) (hb hby d56_6)
  obtain ⟨rfl, e12, rfl⟩ := q12
  have N12 := Fr.app N0 (Fr.nil n0)
  refine Fin.go st12 ?_
  show Fin _ _ _ _ _ _ _ _ T12 (mkF m 9 #[vi (Int32.ofNat o), vi (Int32.ofNat n), vi (Int32.ofNat z)] [(.int (Int32.ofNat o))])
  exact Fin.leaveN X12 e12 hlk (v := some (.int (Int32.ofNat o))) (nvS hret) (by decide) (by decide) ⟨rfl, rfl, rfl⟩ (fun fs hr => retI X12 hx hret (hb hby d56_9) hr)
theorem rmUL (l : Launch) (Z : State) (a0 : Array Value) (hw : HW a0 Z) (n0 : Nat) (h0 : Heap) (O : Old Z n0 h0) (d : Addr) (kd : ClassId) (ys : List Int32) (z : Nat) (hz' : z ≤ 64) (VD : Arv Z h0 d kd .byte (Int32.ofNat (2 * z)) (ivL ys) (.int (0 : Int32))) :
    ConW FrameEnd l Z [] (⟨"java/lang/StringUTF16", "length", "([B)I"⟩ : MethodName) jdk_52_method_6_code 1 (some .int) ({ frames := 0, cells := 0, slots := 0, locals := 0 } : Room) #[(.ref d)] h0 (Pure h0 (some (.int (Int32.ofNat z)))) := by
  refine conOf (plainFor_of_name pn_java_lang_StringUTF16) ?_
  intro p e s m below mth cc s₁ X0 hx hby hml hown hnm hret hlk hZ e0
  have N0 := Fr.nil n0
  refine Fin.came (castTop (t := _) (by first | (simp [entryFrame, mkF, argsToLocals, Value.category]; done) | rfl) (Steps.refl _) : Steps p.tables e below (s₁.setTop (entryFrame m #[(.ref d)] 1)) (s₁.setTop (mkF m 0 #[vr d] []))) ?_
  refine .go (fun _ k => XS.aloadN X0.here hx rfl (hb hby d55_0) rfl rfl k) ?_
  obtain ⟨cz11, B11, q11, S11, M11, H11, G11⟩ := id VD
  refine Fin.go (fun _ k => X0.arraylength hx (by rw [e0]; exact B11.1) (State.isArrayOf_alike hZ.alike B11.2.1) (g := (mkF m 1 #[vr d] [(.ref d)])) rfl rfl (hb hby d55_1) _ k) ?_
  rw [len_of S11 M11]
  show Fin _ _ _ _ _ _ _ _ s₁ (mkF m 2 #[vr d] [(.int (Int32.ofNat (2 * z)))])
  refine .go (fun _ k => XS.iconst X0.here hx rfl (hb hby d55_2) k) ?_
  refine .go (fun _ k => XT.ishr X0.here hx rfl (hb hby d55_3) rfl k) ?_
  exact Fin.leaveN X0 e0 hlk (v := some (.int ((Int32.ofNat (2 * z)) >>> ((1 : Int32) &&& 31)))) (nvS hret) (by decide) (by decide) ⟨by rw [shr1 z (by omega)], rfl, rfl⟩ (fun fs hr => retI X0 hx hret (hb hby d55_4) hr)
theorem rmCBO (l : Launch) (Z : State) (a0 : Array Value) (hw : HW a0 Z) (n0 : Nat) (h0 : Heap) (O : Old Z n0 h0) (d : Addr) (kd : ClassId) (ys : List Int32) (o n z : Nat) (hz : o + n ≤ z) (hz' : z ≤ 64) (VD : Arv Z h0 d kd .byte (Int32.ofNat (2 * z)) (ivL ys) (.int (0 : Int32))) (fm : Value) (hfm : fm.isRef = true) (S_fm : SFm Z fm) :
    ConW FrameEnd l Z [] (⟨"java/lang/StringUTF16", "checkBoundsOffCount", "(II[B)V"⟩ : MethodName) jdk_52_method_94_code 3 none ({ frames := 2, cells := 0, slots := 0, locals := 29 } : Room) #[(.int (Int32.ofNat o)), (.int (Int32.ofNat n)), (.ref d)] h0 (Pure h0 none) := by
  refine conOf (plainFor_of_name pn_java_lang_StringUTF16) ?_
  intro p e s m below mth cc s₁ X0 hx hby hml hown hnm hret hlk hZ e0
  have N0 := Fr.nil n0
  refine Fin.came (castTop (t := _) (by first | (simp [entryFrame, mkF, argsToLocals, Value.category]; done) | rfl) (Steps.refl _) : Steps p.tables e below (s₁.setTop (entryFrame m #[(.int (Int32.ofNat o)), (.int (Int32.ofNat n)), (.ref d)] 3)) (s₁.setTop (mkF m 0 #[vi (Int32.ofNat o), vi (Int32.ofNat n), vr d] []))) ?_
  refine .go (fun _ k => XS.iloadN X0.here hx rfl (hb hby d54_0) rfl k) ?_
  refine .go (fun _ k => XS.iloadN X0.here hx rfl (hb hby d54_1) rfl k) ?_
  refine .go (fun _ k => XS.aloadN X0.here hx rfl (hb hby d54_2) rfl rfl k) ?_
  obtain ⟨v11, T11, L11, X11, q11, st11⟩ := callSt X0 hx hZ hown (hw _ w_281) (hw _ w_282) (hw _ w_37) (hw _ w_283) (by decide) (W := 2) (rmUL l Z a0 hw n0 h0 O d kd ys z hz' VD) e0 (by decide) (by decide) (by decide) (by decide) (g := (mkF m 3 #[vi (Int32.ofNat o), vi (Int32.ofNat n), vr d] [(.ref d), (.int (Int32.ofNat n)), (.int (Int32.ofNat o))])) rfl (by rw [hml]; rfl) (argsL := [(.ref d)]) (rest := [(.int (Int32.ofNat n)), (.int (Int32.ofNat o))]) (lenOf pd_oABcI rfl) rfl (wk rfl rfl) (hb hby d54_3)
  obtain ⟨rfl, e11, rfl⟩ := q11
  have N11 := Fr.app N0 (Fr.nil n0)
  refine Fin.go st11 ?_
  show Fin _ _ _ _ _ _ _ _ T11 (mkF m 6 #[vi (Int32.ofNat o), vi (Int32.ofNat n), vr d] [(.int (Int32.ofNat z)), (.int (Int32.ofNat n)), (.int (Int32.ofNat o))])
  obtain ⟨v12, T12, L12, X12, q12, st12⟩ := callSt X11 hx hZ hown (hw _ w_284) (hw _ w_285) (hw _ w_3) (hw _ w_286) (by decide) (W := 0) (rmCB3 l Z a0 hw n0 h0 O o n z hz hz' fm hfm S_fm) e11 (by decide) (by decide) (by decide) (by decide) (g := (mkF m 6 #[vi (Int32.ofNat o), vi (Int32.ofNat n), vr d] [(.int (Int32.ofNat z)), (.int (Int32.ofNat n)), (.int (Int32.ofNat o))])) rfl (by rw [hml]; rfl) (argsL := [(.int (Int32.ofNat o)), (.int (Int32.ofNat n)), (.int (Int32.ofNat z))]) (rest := []) (lenOf pd_oIIIcI rfl) rfl (wk rfl rfl) (hb hby d54_6)
  obtain ⟨rfl, e12, rfl⟩ := q12
  have N12 := Fr.app N11 (Fr.nil n0)
  refine Fin.go st12 ?_
  show Fin _ _ _ _ _ _ _ _ T12 (mkF m 9 #[vi (Int32.ofNat o), vi (Int32.ofNat n), vr d] [(.int (Int32.ofNat o))])
  refine .go (fun _ k => XT.pop X12.here hx rfl (hb hby d54_9) rfl rfl k) ?_
  exact Fin.leaveN X12 e12 hlk (v := none) (fun _ => rfl) (by decide) (by decide) ⟨rfl, rfl, rfl⟩ (fun fs hr => X12.returnOut hx hret (hb hby d54_10) hr)
theorem rmInf (l : Launch) (Z : State) (a0 : Array Value) (hw : HW a0 Z) (n0 : Nat) (h0 : Heap) (O : Old Z n0 h0) (q d : Addr) (kq kd : ClassId) (xs tl F : List Int32) (o M R NQ : Nat) (hF : F.length = 2 * o) (hM : 2 * M = 2 * o + 2 * xs.length + R) (hM' : M ≤ 64) (hQ : xs.length ≤ NQ) (hQ' : NQ ≤ 64) (hlat : Lat xs) (hch : ∀ k, k < xs.length → ChI (xs.getD k 0)) (VQ : Arv Z h0 q kq .byte (Int32.ofNat NQ) (ivL (xs.map b8f ++ tl)) (.int (0 : Int32))) (VD : Arv Z h0 d kd .byte (Int32.ofNat (2 * M)) (ivL (F ++ List.replicate (2 * xs.length + R) 0)) (.int (0 : Int32))) (nd : n0 ≤ d) (nqd : q ≠ d) (S_as : SAs Z) (S_hb : SHb Z) (S_lb : SLb Z) (fm : Value) (hfm : fm.isRef = true) (S_fm : SFm Z fm) :
    ConW FrameEnd l Z [] (⟨"java/lang/StringUTF16", "inflate", "([BI[BII)V"⟩ : MethodName) jdk_52_method_86_code 6 none ({ frames := 3, cells := 0, slots := 0, locals := 43 } : Room) #[(.ref q), (.int (0 : Int32)), (.ref d), (.int (Int32.ofNat o)), (.int (Int32.ofNat xs.length))] h0 (fun v h L => v = none ∧ Fr n0 L ∧ Keep h0 h [d] ∧ Arv Z h d kd .byte (Int32.ofNat (2 * M)) (ivL (F ++ u8 xs ++ List.replicate R 0)) (.int (0 : Int32))) := by
  refine conOf (plainFor_of_name pn_java_lang_StringUTF16) ?_
  intro p e s m below mth cc s₁ X0 hx hby hml hown hnm hret hlk hZ e0
  have N0 := Fr.nil n0
  have K0 := Keep.refl h0 ([d] : List Addr)
  refine Fin.came (castTop (t := _) (by first | (simp [entryFrame, mkF, argsToLocals, Value.category]; done) | rfl) (Steps.refl _) : Steps p.tables e below (s₁.setTop (entryFrame m #[(.ref q), (.int (0 : Int32)), (.ref d), (.int (Int32.ofNat o)), (.int (Int32.ofNat xs.length))] 6)) (s₁.setTop (mkF m 0 #[vr q, vi (0 : Int32), vr d, vi (Int32.ofNat o), vi (Int32.ofNat xs.length), .unset] []))) ?_
  refine .go (fun _ k => XS.iloadN X0.here hx rfl (hb hby d53_0) rfl k) ?_
  refine .go (fun _ k => XS.iload X0.here hx rfl (hb hby d53_1) rfl k) ?_
  refine .go (fun _ k => XS.aloadN X0.here hx rfl (hb hby d53_3) rfl rfl k) ?_
  obtain ⟨v11, T11, L11, X11, q11, st11⟩ := callSt X0 hx hZ hown (hw _ w_278) (hw _ w_279) (hw _ w_37) (hw _ w_280) (by decide) (W := 0) (rmCBO l Z a0 hw n0 h0 O d kd (F ++ List.replicate (2 * xs.length + R) 0) o xs.length M (by omega) hM' VD fm hfm S_fm) e0 (by decide) (by decide) (by decide) (by decide) (g := (mkF m 4 #[vr q, vi (0 : Int32), vr d, vi (Int32.ofNat o), vi (Int32.ofNat xs.length), .unset] [(.ref d), (.int (Int32.ofNat xs.length)), (.int (Int32.ofNat o))])) rfl (by rw [hml]; rfl) (argsL := [(.int (Int32.ofNat o)), (.int (Int32.ofNat xs.length)), (.ref d)]) (rest := []) (lenOf pd_oIIABcV rfl) rfl (wk rfl rfl) (hb hby d53_4)
  obtain ⟨rfl, e11, rfl⟩ := q11
  have N11 := Fr.app N0 (Fr.nil n0)
  refine Fin.go st11 ?_
  show Fin _ _ _ _ _ _ _ _ T11 (mkF m 7 #[vr q, vi (0 : Int32), vr d, vi (Int32.ofNat o), vi (Int32.ofNat xs.length), .unset] [])
  refine .go (fun _ k => XS.iconst X11.here hx rfl (hb hby d53_7) k) ?_
  refine .go (fun _ k => XS.istore X11.here hx rfl (hb hby d53_8) rfl (l' := #[vr q, vi (0 : Int32), vr d, vi (Int32.ofNat o), vi (Int32.ofNat xs.length), vi (0 : Int32)]) rfl k) ?_
  show Fin _ _ _ _ _ _ _ _ T11 (mkF m 10 #[vr q, vi (0 : Int32), vr d, vi (Int32.ofNat o), vi (Int32.ofNat xs.length), vi (0 : Int32)] [])
  have loop : ∀ (r i : Nat) (hi : i + r = xs.length) (T : State) (L : List Loc) (X : Stand p l e ({ frames := 3, cells := 0, slots := 0, locals := 43 } : Room) s m #[(.ref q), (.int (0 : Int32)), (.ref d), (.int (Int32.ofNat o)), (.int (Int32.ofNat xs.length))] below mth cc T L 0 0) (h : Heap) (eT : T.heap = h) (N1 : Fr n0 L) (O1 : Old Z n0 h) (K1 : Keep h0 h [d]) (V1 : Arv Z h d kd .byte (Int32.ofNat (2 * M)) (ivL (mixI F xs i R)) (.int (0 : Int32))), Fin FrameEnd p e below s (fun v h L => v = none ∧ Fr n0 L ∧ Keep h0 h [d] ∧ Arv Z h d kd .byte (Int32.ofNat (2 * M)) (ivL (F ++ u8 xs ++ List.replicate R 0)) (.int (0 : Int32))) 0 0 T (mkF m 10 #[vr q, vi (Int32.ofNat i), vr d, vi (Int32.ofNat (o + i)), vi (Int32.ofNat xs.length), vi (Int32.ofNat i)] []) := by
    intro r
    induction r with
    | zero =>
      intro i hi T L X h eT N1 O1 K1 V1
      refine .go (fun _ k => XS.iload X.here hx rfl (hb hby d53_10) rfl k) ?_
      refine .go (fun _ k => XS.iload X.here hx rfl (hb hby d53_12) rfl k) ?_
      refine .go (fun _ k => XS.icmpYes X.here hx rfl (pc0 := 14) (pc' := 41) rfl (hb hby d53_14) rfl (XT.ii_ge_t (on_nl (by omega) (by omega))) (by decide) (by decide) k) ?_
      show Fin _ _ _ _ _ _ _ _ T (mkF m 41 #[vr q, vi (Int32.ofNat i), vr d, vi (Int32.ofNat (o + i)), vi (Int32.ofNat xs.length), vi (Int32.ofNat i)] [])
      exact Fin.leaveN X eT hlk (v := none) (fun _ => rfl) (by decide) (by decide) ⟨rfl, N1, K1, (by obtain rfl : i = xs.length := (by omega); rw [← mixIN]; exact V1)⟩ (fun fs hr => X.returnOut hx hret (hb hby d53_41) hr)
    | succ r ih =>
      intro i hi T L X h eT N1 O1 K1 V1
      refine .go (fun _ k => XS.iload X.here hx rfl (hb hby d53_10) rfl k) ?_
      refine .go (fun _ k => XS.iload X.here hx rfl (hb hby d53_12) rfl k) ?_
      refine .go (fun _ k => XS.icmpNo X.here hx rfl (hb hby d53_14) rfl (XT.ii_ge_f (on_l (by omega) (by omega))) k) ?_
      show Fin _ _ _ _ _ _ _ _ T (mkF m 17 #[vr q, vi (Int32.ofNat i), vr d, vi (Int32.ofNat (o + i)), vi (Int32.ofNat xs.length), vi (Int32.ofNat i)] [])
      refine .go (fun _ k => XS.aloadN X.here hx rfl (hb hby d53_17) rfl rfl k) ?_
      refine .go (fun _ k => XS.iloadN X.here hx rfl (hb hby d53_18) rfl k) ?_
      refine .go (fun _ k => XS.iinc X.here hx rfl (hb hby d53_19) rfl (l' := #[vr q, vi (Int32.ofNat i), vr d, vi ((Int32.ofNat (o + i)) + (1 : Int32)), vi (Int32.ofNat xs.length), vi (Int32.ofNat i)]) rfl k) ?_
      refine .go (fun _ k => XS.aloadN X.here hx rfl (hb hby d53_22) rfl rfl k) ?_
      show Fin _ _ _ _ _ _ _ _ T (mkF m 23 #[vr q, vi (Int32.ofNat i), vr d, vi ((Int32.ofNat (o + i)) + (1 : Int32)), vi (Int32.ofNat xs.length), vi (Int32.ofNat i)] [(.ref q), (.int (Int32.ofNat (o + i))), (.ref d)])
      refine .go (fun _ k => XS.iloadN X.here hx rfl (hb hby d53_23) rfl k) ?_
      refine .go (fun _ k => XS.iinc X.here hx rfl (hb hby d53_24) rfl (l' := #[vr q, vi ((Int32.ofNat i) + (1 : Int32)), vr d, vi ((Int32.ofNat (o + i)) + (1 : Int32)), vi (Int32.ofNat xs.length), vi (Int32.ofNat i)]) rfl k) ?_
      obtain ⟨cz12, B12, q12, S12, M12, H12, G12⟩ := id (VQ.keep K1 (ninS nqd nin0))
      have i12 := inb_of S12 ⟨(on_g (i := i) (by omega)), (on_l (i := i) (by omega) (by omega))⟩
      refine Fin.go (fun _ k => X.baloadBytes hx (j := (Int32.ofNat i)) (v := (.int ((xs.map b8f ++ tl).getD i 0))) (by rw [eT]; exact B12.1) (State.isArrayOf_alike hZ.alike B12.2.1) B12.2.2 i12 (Has.at H12 i12 (ivg (on_n (i := i) (by omega)))) (g := (mkF m 27 #[vr q, vi ((Int32.ofNat i) + (1 : Int32)), vr d, vi ((Int32.ofNat (o + i)) + (1 : Int32)), vi (Int32.ofNat xs.length), vi (Int32.ofNat i)] [(.int (Int32.ofNat i)), (.ref q), (.int (Int32.ofNat (o + i))), (.ref d)])) rfl rfl (hb hby d53_27) _ k) ?_
      show Fin _ _ _ _ _ _ _ _ T (mkF m 28 #[vr q, vi ((Int32.ofNat i) + (1 : Int32)), vr d, vi ((Int32.ofNat (o + i)) + (1 : Int32)), vi (Int32.ofNat xs.length), vi (Int32.ofNat i)] [(.int ((xs.map b8f ++ tl).getD i 0)), (.int (Int32.ofNat (o + i))), (.ref d)])
      refine .go (fun _ k => XS.sipush X.here hx rfl (hb hby d53_28) k) ?_
      refine .go (fun _ k => XS.iand X.here hx rfl (hb hby d53_31) rfl k) ?_
      show Fin _ _ _ _ _ _ _ _ T (mkF m 32 #[vr q, vi ((Int32.ofNat i) + (1 : Int32)), vr d, vi ((Int32.ofNat (o + i)) + (1 : Int32)), vi (Int32.ofNat xs.length), vi (Int32.ofNat i)] [(.int (((xs.map b8f ++ tl).getD i 0) &&& (255 : Int32))), (.int (Int32.ofNat (o + i))), (.ref d)])
      show Fin _ _ _ _ _ _ _ _ T (mkF m 32 #[vr q, vi ((Int32.ofNat i) + (1 : Int32)), vr d, vi ((Int32.ofNat (o + i)) + (1 : Int32)), vi (Int32.ofNat xs.length), vi (Int32.ofNat i)] [(.int (((xs.map b8f ++ tl).getD i 0) &&& (255 : Int32))), (.int (Int32.ofNat (o + i))), (.ref d)])
      rw [getD_map (xs := xs) (tl := tl) (i := i) (by omega), b8and _ (hch i (by omega)) (hlat i (by omega))]
      show Fin _ _ _ _ _ _ _ _ T (mkF m 32 #[vr q, vi ((Int32.ofNat i) + (1 : Int32)), vr d, vi ((Int32.ofNat (o + i)) + (1 : Int32)), vi (Int32.ofNat xs.length), vi (Int32.ofNat i)] [(.int (xs.getD i 0)), (.int (Int32.ofNat (o + i))), (.ref d)])
      obtain ⟨v13, T13, L13, X13, q13, st13⟩ := callSt X hx hZ hown (hw _ w_256) (hw _ w_257) (hw _ w_37) (hw _ w_258) (by decide) (W := 0) (rmPutG l Z a0 hw n0 h O1 d kd (xs.getD i 0) (mixI F xs i R) (o + i) (2 * M) (by rw [mixIL (by omega)]; omega) (by omega) (by omega) V1 nd S_as S_hb S_lb) eT (by decide) (by decide) (by decide) (by decide) (g := (mkF m 32 #[vr q, vi ((Int32.ofNat i) + (1 : Int32)), vr d, vi ((Int32.ofNat (o + i)) + (1 : Int32)), vi (Int32.ofNat xs.length), vi (Int32.ofNat i)] [(.int (xs.getD i 0)), (.int (Int32.ofNat (o + i))), (.ref d)])) rfl (by rw [hml]; rfl) (argsL := [(.ref d), (.int (Int32.ofNat (o + i))), (.int (xs.getD i 0))]) (rest := []) (lenOf pd_oABIIcV rfl) rfl (wk rfl rfl) (hb hby d53_32)
      obtain ⟨rfl, Nq13, Kq13, V13⟩ := q13
      have N13 := Fr.app N1 Nq13
      have O13 := O1.keep Kq13 (allS nd all0)
      have K13 := K1.trans Kq13 (allS (Or.inl (List.mem_of_getElem? (i := 0) rfl)) all0)
      refine Fin.go st13 ?_
      show Fin _ _ _ _ _ _ _ _ T13 (mkF m 35 #[vr q, vi ((Int32.ofNat i) + (1 : Int32)), vr d, vi ((Int32.ofNat (o + i)) + (1 : Int32)), vi (Int32.ofNat xs.length), vi (Int32.ofNat i)] [])
      rw [mixIS hF (by omega)] at V13
      refine .go (fun _ k => XS.iinc X13.here hx rfl (hb hby d53_35) rfl (l' := #[vr q, vi ((Int32.ofNat i) + (1 : Int32)), vr d, vi ((Int32.ofNat (o + i)) + (1 : Int32)), vi (Int32.ofNat xs.length), vi ((Int32.ofNat i) + (1 : Int32))]) rfl k) ?_
      refine .go (fun _ k => XS.goto X13.here hx rfl (pc0 := 38) (pc' := 10) rfl (hb hby d53_38) (by decide) (by decide) k) ?_
      show Fin _ _ _ _ _ _ _ _ T13 (mkF m 10 #[vr q, vi ((Int32.ofNat i) + (1 : Int32)), vr d, vi ((Int32.ofNat (o + i)) + (1 : Int32)), vi (Int32.ofNat xs.length), vi ((Int32.ofNat i) + (1 : Int32))] [])
      show Fin _ _ _ _ _ _ _ _ T13 (mkF m 10 #[vr q, vi ((Int32.ofNat i) + (1 : Int32)), vr d, vi ((Int32.ofNat (o + i)) + (1 : Int32)), vi (Int32.ofNat xs.length), vi ((Int32.ofNat i) + (1 : Int32))] [])
      rw [on_s, on_s]
      exact ih (i + 1) (by omega) T13 _ X13 _ (rfl : T13.heap = T13.heap) N13 O13 K13 V13
  exact loop xs.length 0 (by omega) T11 _ X11 _ e11 N11 O K0 (by rw [mixI0]; exact VD)
theorem rmInL (l : Launch) (Z : State) (a0 : Array Value) (hw : HW a0 Z) (n0 : Nat) (h0 : Heap) (O : Old Z n0 h0) (q d : Addr) (kq kd : ClassId) (xs tl F : List Int32) (o M R NQ : Nat) (hF : F.length = 2 * o) (hM : 2 * M = 2 * o + 2 * xs.length + R) (hM' : M ≤ 64) (hQ : xs.length ≤ NQ) (hQ' : NQ ≤ 64) (hlat : Lat xs) (hch : ∀ k, k < xs.length → ChI (xs.getD k 0)) (VQ : Arv Z h0 q kq .byte (Int32.ofNat NQ) (ivL (xs.map b8f ++ tl)) (.int (0 : Int32))) (VD : Arv Z h0 d kd .byte (Int32.ofNat (2 * M)) (ivL (F ++ List.replicate (2 * xs.length + R) 0)) (.int (0 : Int32))) (nd : n0 ≤ d) (nqd : q ≠ d) (S_as : SAs Z) (S_hb : SHb Z) (S_lb : SLb Z) (fm : Value) (hfm : fm.isRef = true) (S_fm : SFm Z fm) :
    ConW FrameEnd l Z [] (⟨"java/lang/StringLatin1", "inflate", "([BI[BII)V"⟩ : MethodName) jdk_43_method_50_code 5 none ({ frames := 4, cells := 0, slots := 0, locals := 60 } : Room) #[(.ref q), (.int (0 : Int32)), (.ref d), (.int (Int32.ofNat o)), (.int (Int32.ofNat xs.length))] h0 (fun v h L => v = none ∧ Fr n0 L ∧ Keep h0 h [d] ∧ Arv Z h d kd .byte (Int32.ofNat (2 * M)) (ivL (F ++ u8 xs ++ List.replicate R 0)) (.int (0 : Int32))) := by
  refine conOf (plainFor_of_name pn_java_lang_StringLatin1) ?_
  intro p e s m below mth cc s₁ X0 hx hby hml hown hnm hret hlk hZ e0
  have N0 := Fr.nil n0
  have K0 := Keep.refl h0 ([d] : List Addr)
  refine Fin.came (castTop (t := _) (by first | (simp [entryFrame, mkF, argsToLocals, Value.category]; done) | rfl) (Steps.refl _) : Steps p.tables e below (s₁.setTop (entryFrame m #[(.ref q), (.int (0 : Int32)), (.ref d), (.int (Int32.ofNat o)), (.int (Int32.ofNat xs.length))] 5)) (s₁.setTop (mkF m 0 #[vr q, vi (0 : Int32), vr d, vi (Int32.ofNat o), vi (Int32.ofNat xs.length)] []))) ?_
  refine .go (fun _ k => XS.aloadN X0.here hx rfl (hb hby d52_0) rfl rfl k) ?_
  refine .go (fun _ k => XS.iloadN X0.here hx rfl (hb hby d52_1) rfl k) ?_
  refine .go (fun _ k => XS.aloadN X0.here hx rfl (hb hby d52_2) rfl rfl k) ?_
  refine .go (fun _ k => XS.iloadN X0.here hx rfl (hb hby d52_3) rfl k) ?_
  show Fin _ _ _ _ _ _ _ _ s₁ (mkF m 4 #[vr q, vi (0 : Int32), vr d, vi (Int32.ofNat o), vi (Int32.ofNat xs.length)] [(.int (Int32.ofNat o)), (.ref d), (.int (0 : Int32)), (.ref q)])
  refine .go (fun _ k => XS.iload X0.here hx rfl (hb hby d52_4) rfl k) ?_
  obtain ⟨v11, T11, L11, X11, q11, st11⟩ := callSt X0 hx hZ hown (hw _ w_275) (hw _ w_276) (hw _ w_37) (hw _ w_277) (by decide) (W := 0) (rmInf l Z a0 hw n0 h0 O q d kq kd xs tl F o M R NQ hF hM hM' hQ hQ' hlat hch VQ VD nd nqd S_as S_hb S_lb fm hfm S_fm) e0 (by decide) (by decide) (by decide) (by decide) (g := (mkF m 6 #[vr q, vi (0 : Int32), vr d, vi (Int32.ofNat o), vi (Int32.ofNat xs.length)] [(.int (Int32.ofNat xs.length)), (.int (Int32.ofNat o)), (.ref d), (.int (0 : Int32)), (.ref q)])) rfl (by rw [hml]; rfl) (argsL := [(.ref q), (.int (0 : Int32)), (.ref d), (.int (Int32.ofNat o)), (.int (Int32.ofNat xs.length))]) (rest := []) (lenOf pd_oABIABIIcV rfl) rfl (wk rfl rfl) (hb hby d52_6)
  obtain ⟨rfl, Nq11, Kq11, V11⟩ := q11
  have N11 := Fr.app N0 Nq11
  have O11 := O.keep Kq11 (allS nd all0)
  have K11 := K0.trans Kq11 (allS (Or.inl (List.mem_of_getElem? (i := 0) rfl)) all0)
  refine Fin.go st11 ?_
  show Fin _ _ _ _ _ _ _ _ T11 (mkF m 9 #[vr q, vi (0 : Int32), vr d, vi (Int32.ofNat o), vi (Int32.ofNat xs.length)] [])
  exact Fin.leaveN X11 (rfl : T11.heap = T11.heap) hlk (v := none) (fun _ => rfl) (by decide) (by decide) ⟨rfl, N11, K11, V11⟩ (fun fs hr => X11.returnOut hx hret (hb hby d52_9) hr)
theorem rmIL0 (l : Launch) (Z : State) (a0 : Array Value) (hw : HW a0 Z) (n0 : Nat) (h0 : Heap) (O : Old Z n0 h0) (b : Addr) (G2 : Fld Z h0 b "java/lang/AbstractStringBuilder" "coder" "B" (.int (0 : Int32))) (cs : Int32) (S_cs : Sta Z Z.heap "java/lang/String" "COMPACT_STRINGS" "Z" (.int cs)) (hcs : ¬ cs = 0) :
    ConW FrameEnd l Z [] (⟨"java/lang/AbstractStringBuilder", "isLatin1", "()Z"⟩ : MethodName) jdk_68_method_68_code 1 (some .boolean) ({ frames := 0, cells := 0, slots := 0, locals := 0 } : Room) #[(.ref b)] h0 (Pure h0 (some (.int (1 : Int32)))) := by
  refine conOf (plainFor_of_name pn_java_lang_AbstractStringBuilder) ?_
  intro p e s m below mth cc s₁ X0 hx hby hml hown hnm hret hlk hZ e0
  have N0 := Fr.nil n0
  refine Fin.came (castTop (t := _) (by first | (simp [entryFrame, mkF, argsToLocals, Value.category]; done) | rfl) (Steps.refl _) : Steps p.tables e below (s₁.setTop (entryFrame m #[(.ref b)] 1)) (s₁.setTop (mkF m 0 #[vr b] []))) ?_
  obtain ⟨T11, X11, e11, st11⟩ := getS2 X0 hx hZ hown (host := "") (Or.inl (hw _ w_67)) Via.refl e0 (S_cs.ext O.2) (g := (mkF m 0 #[vr b] [])) rfl (hb hby d33_0)
  refine Fin.go st11 ?_
  show Fin _ _ _ _ _ _ _ _ T11 (mkF m 3 #[vr b] [(.int cs)])
  refine .go (fun _ k => XS.ifNo X11.here hx rfl (hb hby d33_3) rfl (XT.i0_eq_f hcs) k) ?_
  show Fin _ _ _ _ _ _ _ _ T11 (mkF m 6 #[vr b] [])
  refine .go (fun _ k => XS.aloadN X11.here hx rfl (hb hby d33_6) rfl rfl k) ?_
  obtain ⟨T12, X12, e12, st12⟩ := getF X11 hx hZ hown (host := "") (Or.inl (hw _ w_70)) Via.refl e11 G2 (g := (mkF m 7 #[vr b] [(.ref b)])) rfl rfl (hb hby d33_7)
  refine Fin.go st12 ?_
  show Fin _ _ _ _ _ _ _ _ T12 (mkF m 10 #[vr b] [(.int (0 : Int32))])
  refine .go (fun _ k => XS.ifNo X12.here hx rfl (hb hby d33_10) rfl (XT.i0_ne_f (by decide)) k) ?_
  show Fin _ _ _ _ _ _ _ _ T12 (mkF m 13 #[vr b] [])
  refine .go (fun _ k => XS.iconst X12.here hx rfl (hb hby d33_13) k) ?_
  refine .go (fun _ k => XS.goto X12.here hx rfl (pc0 := 14) (pc' := 18) rfl (hb hby d33_14) (by decide) (by decide) k) ?_
  exact Fin.leaveN X12 e12 hlk (v := some (.int (nar .boolean (1 : Int32)))) (nvS hret) (by decide) (by decide) ⟨by decide +kernel, rfl, rfl⟩ (fun fs hr => retN X12 hx (t := .boolean) hret (by simp) (hb hby d33_18) hr)
theorem rmIL1 (l : Launch) (Z : State) (a0 : Array Value) (hw : HW a0 Z) (n0 : Nat) (h0 : Heap) (O : Old Z n0 h0) (b : Addr) (G2 : Fld Z h0 b "java/lang/AbstractStringBuilder" "coder" "B" (.int (1 : Int32))) (cs : Int32) (S_cs : Sta Z Z.heap "java/lang/String" "COMPACT_STRINGS" "Z" (.int cs)) (hcs : ¬ cs = 0) :
    ConW FrameEnd l Z [] (⟨"java/lang/AbstractStringBuilder", "isLatin1", "()Z"⟩ : MethodName) jdk_68_method_68_code 1 (some .boolean) ({ frames := 0, cells := 0, slots := 0, locals := 0 } : Room) #[(.ref b)] h0 (Pure h0 (some (.int (0 : Int32)))) := by
  refine conOf (plainFor_of_name pn_java_lang_AbstractStringBuilder) ?_
  intro p e s m below mth cc s₁ X0 hx hby hml hown hnm hret hlk hZ e0
  have N0 := Fr.nil n0
  refine Fin.came (castTop (t := _) (by first | (simp [entryFrame, mkF, argsToLocals, Value.category]; done) | rfl) (Steps.refl _) : Steps p.tables e below (s₁.setTop (entryFrame m #[(.ref b)] 1)) (s₁.setTop (mkF m 0 #[vr b] []))) ?_
  obtain ⟨T11, X11, e11, st11⟩ := getS2 X0 hx hZ hown (host := "") (Or.inl (hw _ w_67)) Via.refl e0 (S_cs.ext O.2) (g := (mkF m 0 #[vr b] [])) rfl (hb hby d33_0)
  refine Fin.go st11 ?_
  show Fin _ _ _ _ _ _ _ _ T11 (mkF m 3 #[vr b] [(.int cs)])
  refine .go (fun _ k => XS.ifNo X11.here hx rfl (hb hby d33_3) rfl (XT.i0_eq_f hcs) k) ?_
  show Fin _ _ _ _ _ _ _ _ T11 (mkF m 6 #[vr b] [])
  refine .go (fun _ k => XS.aloadN X11.here hx rfl (hb hby d33_6) rfl rfl k) ?_
  obtain ⟨T12, X12, e12, st12⟩ := getF X11 hx hZ hown (host := "") (Or.inl (hw _ w_70)) Via.refl e11 G2 (g := (mkF m 7 #[vr b] [(.ref b)])) rfl rfl (hb hby d33_7)
  refine Fin.go st12 ?_
  show Fin _ _ _ _ _ _ _ _ T12 (mkF m 10 #[vr b] [(.int (1 : Int32))])
  refine .go (fun _ k => XS.ifYes X12.here hx rfl (pc0 := 10) (pc' := 17) rfl (hb hby d33_10) rfl (XT.i0_ne_t (by decide)) (by decide) (by decide) k) ?_
  show Fin _ _ _ _ _ _ _ _ T12 (mkF m 17 #[vr b] [])
  refine .go (fun _ k => XS.iconst X12.here hx rfl (hb hby d33_17) k) ?_
  exact Fin.leaveN X12 e12 hlk (v := some (.int (nar .boolean (0 : Int32)))) (nvS hret) (by decide) (by decide) ⟨by decide +kernel, rfl, rfl⟩ (fun fs hr => retN X12 hx (t := .boolean) hret (by simp) (hb hby d33_18) hr)
theorem rmIfB (l : Launch) (Z : State) (a0 : Array Value) (hw : HW a0 Z) (n0 : Nat) (h0 : Heap) (O : Old Z n0 h0) (b : Addr) (B : Exa Z h0 b "java/lang/StringBuilder") (G2 : Fld Z h0 b "java/lang/AbstractStringBuilder" "coder" "B" (.int (1 : Int32))) (cs : Int32) (S_cs : Sta Z Z.heap "java/lang/String" "COMPACT_STRINGS" "Z" (.int cs)) (hcs : ¬ cs = 0) :
    ConW FrameEnd l Z [] (⟨"java/lang/AbstractStringBuilder", "inflate", "()V"⟩ : MethodName) jdk_68_method_11_code 2 none ({ frames := 1, cells := 0, slots := 0, locals := 12 } : Room) #[(.ref b)] h0 (Pure h0 none) := by
  refine conOf (plainFor_of_name pn_java_lang_AbstractStringBuilder) ?_
  intro p e s m below mth cc s₁ X0 hx hby hml hown hnm hret hlk hZ e0
  have N0 := Fr.nil n0
  refine Fin.came (castTop (t := _) (by first | (simp [entryFrame, mkF, argsToLocals, Value.category]; done) | rfl) (Steps.refl _) : Steps p.tables e below (s₁.setTop (entryFrame m #[(.ref b)] 2)) (s₁.setTop (mkF m 0 #[vr b, .unset] []))) ?_
  refine .go (fun _ k => XS.aloadN X0.here hx rfl (hb hby d51_0) rfl rfl k) ?_
  obtain ⟨v11, T11, L11, X11, q11, st11⟩ := callVt X0 hx hZ (y := (⟨"java/lang/AbstractStringBuilder", "isLatin1", "()Z"⟩ : MethodName)) hown (hw _ w_270) (hw _ w_170) (hw _ w_172) (hw _ w_171) (hw _ w_64) (hw _ w_173) (by decide) (W := 0) (rmIL1 l Z a0 hw n0 h0 O b G2 cs S_cs hcs) e0 B (by decide) (by decide) (by decide) (by decide) (g := (mkF m 1 #[vr b, .unset] [(.ref b)])) rfl (by rw [hml]; rfl) (argsL := []) (rest := []) (lenOf pd_ocZ rfl) rfl (wk rfl rfl) (hb hby d51_1)
  obtain ⟨rfl, e11, rfl⟩ := q11
  have N11 := Fr.app N0 (Fr.nil n0)
  refine Fin.go st11 ?_
  show Fin _ _ _ _ _ _ _ _ T11 (mkF m 4 #[vr b, .unset] [(.int (0 : Int32))])
  refine .go (fun _ k => XS.ifNo X11.here hx rfl (hb hby d51_4) rfl (XT.i0_ne_f (by decide)) k) ?_
  show Fin _ _ _ _ _ _ _ _ T11 (mkF m 7 #[vr b, .unset] [])
  exact Fin.leaveN X11 e11 hlk (v := none) (fun _ => rfl) (by decide) (by decide) ⟨rfl, rfl, rfl⟩ (fun fs hr => X11.returnOut hx hret (hb hby d51_7) hr)
theorem rmIfA (l : Launch) (Z : State) (a0 : Array Value) (hw : HW a0 Z) (n0 : Nat) (h0 : Heap) (O : Old Z n0 h0) (b d : Addr) (kd : ClassId) (xs : List Int32) (N : Nat) (hN : xs.length ≤ N) (hN' : N ≤ 64) (hlx : Lat xs) (hcx : ∀ k, k < xs.length → ChI (xs.getD k 0)) (B : Exa Z h0 b "java/lang/StringBuilder") (G1 : Fld Z h0 b "java/lang/AbstractStringBuilder" "value" "[B" (.ref d)) (G2 : Fld Z h0 b "java/lang/AbstractStringBuilder" "coder" "B" (.int (0 : Int32))) (G3 : Fld Z h0 b "java/lang/AbstractStringBuilder" "count" "I" (.int (Int32.ofNat xs.length))) (G4 : Fld Z h0 b "java/lang/AbstractStringBuilder" "maybeLatin1" "Z" (.int (0 : Int32))) (VD : Arv Z h0 d kd .byte (Int32.ofNat N) (ivL (bb0 xs N)) (.int (0 : Int32))) (nb : n0 ≤ b) (ndb : d ≠ b) (cs : Int32) (S_cs : Sta Z Z.heap "java/lang/String" "COMPACT_STRINGS" "Z" (.int cs)) (hcs : ¬ cs = 0) (S_as : SAs Z) (S_hb : SHb Z) (S_lb : SLb Z) (fm : Value) (hfm : fm.isRef = true) (S_fm : SFm Z fm) :
    ConW FrameEnd l Z [] (⟨"java/lang/AbstractStringBuilder", "inflate", "()V"⟩ : MethodName) jdk_68_method_11_code 2 none ({ frames := 5, cells := 1, slots := 128, locals := 76 } : Room) #[(.ref b)] h0 (fun v h L => v = none ∧ Fr n0 L ∧ Keep h0 h [b] ∧ ∃ dn kn, Exa Z h b "java/lang/StringBuilder" ∧ Fld Z h b "java/lang/AbstractStringBuilder" "value" "[B" (.ref dn) ∧ Fld Z h b "java/lang/AbstractStringBuilder" "coder" "B" (.int (1 : Int32)) ∧ Fld Z h b "java/lang/AbstractStringBuilder" "count" "I" (.int (Int32.ofNat xs.length)) ∧ Fld Z h b "java/lang/AbstractStringBuilder" "maybeLatin1" "Z" (.int (0 : Int32)) ∧ Arv Z h dn kn .byte (Int32.ofNat (2 * N)) (ivL (bb1 xs N)) (.int (0 : Int32)) ∧ h0.size ≤ dn) := by
  refine conOf (plainFor_of_name pn_java_lang_AbstractStringBuilder) ?_
  intro p e s m below mth cc s₁ X0 hx hby hml hown hnm hret hlk hZ e0
  have N0 := Fr.nil n0
  have K0 := Keep.refl h0 ([b] : List Addr)
  refine Fin.came (castTop (t := _) (by first | (simp [entryFrame, mkF, argsToLocals, Value.category]; done) | rfl) (Steps.refl _) : Steps p.tables e below (s₁.setTop (entryFrame m #[(.ref b)] 2)) (s₁.setTop (mkF m 0 #[vr b, .unset] []))) ?_
  refine .go (fun _ k => XS.aloadN X0.here hx rfl (hb hby d51_0) rfl rfl k) ?_
  obtain ⟨v11, T11, L11, X11, q11, st11⟩ := callVt X0 hx hZ (y := (⟨"java/lang/AbstractStringBuilder", "isLatin1", "()Z"⟩ : MethodName)) hown (hw _ w_270) (hw _ w_170) (hw _ w_172) (hw _ w_171) (hw _ w_64) (hw _ w_173) (by decide) (W := 0) (rmIL0 l Z a0 hw n0 h0 O b G2 cs S_cs hcs) e0 B (by decide) (by decide) (by decide) (by decide) (g := (mkF m 1 #[vr b, .unset] [(.ref b)])) rfl (by rw [hml]; rfl) (argsL := []) (rest := []) (lenOf pd_ocZ rfl) rfl (wk rfl rfl) (hb hby d51_1)
  obtain ⟨rfl, e11, rfl⟩ := q11
  have N11 := Fr.app N0 (Fr.nil n0)
  refine Fin.go st11 ?_
  show Fin _ _ _ _ _ _ _ _ T11 (mkF m 4 #[vr b, .unset] [(.int (1 : Int32))])
  refine .go (fun _ k => XS.ifYes X11.here hx rfl (pc0 := 4) (pc' := 8) rfl (hb hby d51_4) rfl (XT.i0_ne_t (by decide)) (by decide) (by decide) k) ?_
  show Fin _ _ _ _ _ _ _ _ T11 (mkF m 8 #[vr b, .unset] [])
  refine .go (fun _ k => XS.aloadN X11.here hx rfl (hb hby d51_8) rfl rfl k) ?_
  obtain ⟨T12, X12, e12, st12⟩ := getF X11 hx hZ hown (host := "") (Or.inl (hw _ w_68)) Via.refl e11 G1 (g := (mkF m 9 #[vr b, .unset] [(.ref b)])) rfl rfl (hb hby d51_9)
  refine Fin.go st12 ?_
  show Fin _ _ _ _ _ _ _ _ T12 (mkF m 12 #[vr b, .unset] [(.ref d)])
  obtain ⟨cz13, B13, q13, S13, M13, H13, G13⟩ := id VD
  refine Fin.go (fun _ k => X12.arraylength hx (by rw [e12]; exact B13.1) (State.isArrayOf_alike hZ.alike B13.2.1) (g := (mkF m 12 #[vr b, .unset] [(.ref d)])) rfl rfl (hb hby d51_12) _ k) ?_
  rw [len_of S13 M13]
  show Fin _ _ _ _ _ _ _ _ T12 (mkF m 13 #[vr b, .unset] [(.int (Int32.ofNat N))])
  obtain ⟨v14, T14, L14, X14, q14, st14⟩ := callSt X12 hx hZ hown (hw _ w_271) (hw _ w_250) (hw _ w_37) (hw _ w_251) (by decide) (W := 0) (rmNBFG l Z a0 hw n0 h0 O N hN') e12 (by decide) (by decide) (by decide) (by decide) (g := (mkF m 13 #[vr b, .unset] [(.int (Int32.ofNat N))])) rfl (by rw [hml]; rfl) (argsL := [(.int (Int32.ofNat N))]) (rest := []) (lenOf pd_oIcAB rfl) rfl (wk rfl rfl) (hb hby d51_13)
  obtain ⟨d14, kd14, rfl, Nq14, Kq14, V14, zd14⟩ := q14
  have N14 := Fr.app N11 Nq14
  have O14 := O.keep Kq14 all0
  have K14 := K0.trans Kq14 all0
  refine Fin.go st14 ?_
  show Fin _ _ _ _ _ _ _ _ T14 (mkF m 16 #[vr b, .unset] [(.ref d14)])
  have nzd14 : n0 ≤ d14 := Nat.le_trans (by have := O.1; have := O.2.1; omega) zd14
  have hzd14 : h0.size ≤ d14 := Nat.le_trans K0.1 zd14
  refine .go (fun _ k => XS.astoreN X14.here hx rfl (hb hby d51_16) rfl rfl (l' := #[vr b, vr d14]) rfl k) ?_
  refine .go (fun _ k => XS.aloadN X14.here hx rfl (hb hby d51_17) rfl rfl k) ?_
  obtain ⟨T15, X15, e15, st15⟩ := getF X14 hx hZ hown (host := "") (Or.inl (hw _ w_68)) Via.refl (rfl : T14.heap = T14.heap) (G1.keep Kq14 nin0) (g := (mkF m 18 #[vr b, vr d14] [(.ref b)])) rfl rfl (hb hby d51_18)
  refine Fin.go st15 ?_
  show Fin _ _ _ _ _ _ _ _ T15 (mkF m 21 #[vr b, vr d14] [(.ref d)])
  refine .go (fun _ k => XS.iconst X15.here hx rfl (hb hby d51_21) k) ?_
  refine .go (fun _ k => XS.aloadN X15.here hx rfl (hb hby d51_22) rfl rfl k) ?_
  refine .go (fun _ k => XS.iconst X15.here hx rfl (hb hby d51_23) k) ?_
  refine .go (fun _ k => XS.aloadN X15.here hx rfl (hb hby d51_24) rfl rfl k) ?_
  show Fin _ _ _ _ _ _ _ _ T15 (mkF m 25 #[vr b, vr d14] [(.ref b), (.int (0 : Int32)), (.ref d14), (.int (0 : Int32)), (.ref d)])
  obtain ⟨T16, X16, e16, st16⟩ := getF X15 hx hZ hown (host := "") (Or.inl (hw _ w_93)) Via.refl e15 (G3.keep Kq14 nin0) (g := (mkF m 25 #[vr b, vr d14] [(.ref b), (.int (0 : Int32)), (.ref d14), (.int (0 : Int32)), (.ref d)])) rfl rfl (hb hby d51_25)
  refine Fin.go st16 ?_
  show Fin _ _ _ _ _ _ _ _ T16 (mkF m 28 #[vr b, vr d14] [(.int (Int32.ofNat xs.length)), (.int (0 : Int32)), (.ref d14), (.int (0 : Int32)), (.ref d)])
  obtain ⟨v17, T17, L17, X17, q17, st17⟩ := callSt X16 hx hZ hown (hw _ w_272) (hw _ w_273) (hw _ w_8) (hw _ w_274) (by decide) (W := 0) (rmInL l Z a0 hw n0 T14.heap O14 d d14 kd kd14 xs (List.replicate (N - xs.length) 0) [] 0 N (2 * (N - xs.length)) N rfl (by omega) hN' hN hN' hlx hcx (VD.keep Kq14 nin0) (by rw [List.nil_append, show 2 * xs.length + 2 * (N - xs.length) = 2 * N by omega]; exact V14) nzd14 (Nat.ne_of_lt (Nat.lt_of_lt_of_le VD.lt zd14)) S_as S_hb S_lb fm hfm S_fm) e16 (by decide) (by decide) (by decide) (by decide) (g := (mkF m 28 #[vr b, vr d14] [(.int (Int32.ofNat xs.length)), (.int (0 : Int32)), (.ref d14), (.int (0 : Int32)), (.ref d)])) rfl (by rw [hml]; rfl) (argsL := [(.ref d), (.int (0 : Int32)), (.ref d14), (.int (0 : Int32)), (.int (Int32.ofNat xs.length))]) (rest := []) (lenOf pd_oABIABIIcV rfl) rfl (wk rfl rfl) (hb hby d51_28)
  obtain ⟨rfl, Nq17, Kq17, V17⟩ := q17
  have N17 := Fr.app N14 Nq17
  have O17 := O14.keep Kq17 (allS nzd14 all0)
  have K17 := K14.trans Kq17 (allS (Or.inr hzd14) all0)
  refine Fin.go st17 ?_
  have F17_b_value := ((G1.keep Kq14 nin0).keep Kq17 (ninS (Nat.ne_of_lt (Nat.lt_of_lt_of_le G4.lt zd14)) nin0))
  have F17_b_coder := ((G2.keep Kq14 nin0).keep Kq17 (ninS (Nat.ne_of_lt (Nat.lt_of_lt_of_le G4.lt zd14)) nin0))
  have F17_b_count := ((G3.keep Kq14 nin0).keep Kq17 (ninS (Nat.ne_of_lt (Nat.lt_of_lt_of_le G4.lt zd14)) nin0))
  have F17_b_maybeLatin1 := ((G4.keep Kq14 nin0).keep Kq17 (ninS (Nat.ne_of_lt (Nat.lt_of_lt_of_le G4.lt zd14)) nin0))
  have V17_d := ((VD.keep Kq14 nin0).keep Kq17 (ninS (Nat.ne_of_lt (Nat.lt_of_lt_of_le VD.lt zd14)) nin0))
  show Fin _ _ _ _ _ _ _ _ T17 (mkF m 31 #[vr b, vr d14] [])
  refine .go (fun _ k => XS.aloadN X17.here hx rfl (hb hby d51_31) rfl rfl k) ?_
  refine .go (fun _ k => XS.aloadN X17.here hx rfl (hb hby d51_32) rfl rfl k) ?_
  obtain ⟨T18, h18, X18, e18, W18, st18⟩ := putF X17 hx hZ hown (host := "") (Or.inl (hw _ w_68)) Via.refl (rfl : T17.heap = T17.heap) F17_b_value ((B.keep Kq14).keep Kq17) (Or.inl (hw _ w_69)) (hw _ w_55) (ty := (.array .byte)) (by decide) rfl rfl (g := (mkF m 33 #[vr b, vr d14] [(.ref d14), (.ref b)])) rfl rfl (hb hby d51_33)
  refine Fin.go st18 ?_
  have N18 := Fr.snoc X18 N17 nb
  have O18 := O17.wr W18 nb
  have K18 := K17.wr W18 (Or.inl (List.mem_of_getElem? (i := 0) rfl))
  have F18_b_coder := (F17_b_coder.other W18 (Or.inr (slot_ne (Or.inl (hw _ w_71)) (Or.inl (hw _ w_69)) (by decide) (t := .byte) (t' := (.array .byte)) (by decide) (by decide))))
  have F18_b_count := (F17_b_count.other W18 (Or.inr (slot_ne (Or.inl (hw _ w_94)) (Or.inl (hw _ w_69)) (by decide) (t := .int) (t' := (.array .byte)) (by decide) (by decide))))
  have F18_b_maybeLatin1 := (F17_b_maybeLatin1.other W18 (Or.inr (slot_ne (Or.inl (hw _ w_294)) (Or.inl (hw _ w_69)) (by decide) (t := .boolean) (t' := (.array .byte)) (by decide) (by decide))))
  have V18_d14 := (V17.other W18 (Ne.symm (Nat.ne_of_lt (Nat.lt_of_lt_of_le G4.lt zd14))))
  show Fin _ _ _ _ _ _ _ _ T18 (mkF m 36 #[vr b, vr d14] [])
  refine .go (fun _ k => XS.aloadN X18.here hx rfl (hb hby d51_36) rfl rfl k) ?_
  refine .go (fun _ k => XS.iconst X18.here hx rfl (hb hby d51_37) k) ?_
  obtain ⟨T19, h19, X19, e19, W19, st19⟩ := putF X18 hx hZ hown (host := "") (Or.inl (hw _ w_70)) Via.refl e18 F18_b_coder (((B.keep Kq14).keep Kq17).wr W18) (Or.inl (hw _ w_71)) (hw _ w_55) (ty := .byte) (by decide) rfl rfl (g := (mkF m 38 #[vr b, vr d14] [(.int (1 : Int32)), (.ref b)])) rfl rfl (hb hby d51_38)
  refine Fin.go st19 ?_
  have N19 := Fr.snoc X19 N18 nb
  have O19 := O18.wr W19 nb
  have K19 := K18.wr W19 (Or.inl (List.mem_of_getElem? (i := 0) rfl))
  have F19_b_value := ((F17_b_value.same W18).other W19 (Or.inr (slot_ne (Or.inl (hw _ w_69)) (Or.inl (hw _ w_71)) (by decide) (t := (.array .byte)) (t' := .byte) (by decide) (by decide))))
  have F19_b_count := (F18_b_count.other W19 (Or.inr (slot_ne (Or.inl (hw _ w_94)) (Or.inl (hw _ w_71)) (by decide) (t := .int) (t' := .byte) (by decide) (by decide))))
  have F19_b_maybeLatin1 := (F18_b_maybeLatin1.other W19 (Or.inr (slot_ne (Or.inl (hw _ w_294)) (Or.inl (hw _ w_71)) (by decide) (t := .boolean) (t' := .byte) (by decide) (by decide))))
  have V19_d14 := (V18_d14.other W19 (Ne.symm (Nat.ne_of_lt (Nat.lt_of_lt_of_le G4.lt zd14))))
  show Fin _ _ _ _ _ _ _ _ T19 (mkF m 41 #[vr b, vr d14] [])
  exact Fin.leaveN X19 e19 hlk (v := none) (fun _ => rfl) (by decide) (by decide) ⟨rfl, N19, K19, d14, kd14, ((((B.keep Kq14).keep Kq17).wr W18).wr W19), F19_b_value, (F18_b_coder.same W19), F19_b_count, F19_b_maybeLatin1, V19_d14, hzd14⟩ (fun fs hr => X19.returnOut hx hret (hb hby d51_41) hr)
theorem rmIN00 (l : Launch) (Z : State) (a0 : Array Value) (hw : HW a0 Z) (n0 : Nat) (h0 : Heap) (O : Old Z n0 h0) (b a : Addr) (B : Exa Z h0 b "java/lang/StringBuilder") (G2 : Fld Z h0 b "java/lang/AbstractStringBuilder" "coder" "B" (.int (0 : Int32))) (A : Exa Z h0 a "java/lang/String") (F1 : Fld Z h0 a "java/lang/String" "coder" "B" (.int (0 : Int32))) (cs : Int32) (S_cs : Sta Z Z.heap "java/lang/String" "COMPACT_STRINGS" "Z" (.int cs)) (hcs : ¬ cs = 0) :
    ConW FrameEnd l Z [] (⟨"java/lang/AbstractStringBuilder", "inflateIfNeededFor", "(Ljava/lang/String;)V"⟩ : MethodName) jdk_68_method_71_code 2 none ({ frames := 1, cells := 0, slots := 0, locals := 13 } : Room) #[(.ref b), (.ref a)] h0 (Pure h0 none) := by
  refine conOf (plainFor_of_name pn_java_lang_AbstractStringBuilder) ?_
  intro p e s m below mth cc s₁ X0 hx hby hml hown hnm hret hlk hZ e0
  have N0 := Fr.nil n0
  refine Fin.came (castTop (t := _) (by first | (simp [entryFrame, mkF, argsToLocals, Value.category]; done) | rfl) (Steps.refl _) : Steps p.tables e below (s₁.setTop (entryFrame m #[(.ref b), (.ref a)] 2)) (s₁.setTop (mkF m 0 #[vr b, vr a] []))) ?_
  obtain ⟨T11, X11, e11, st11⟩ := getS2 X0 hx hZ hown (host := "") (Or.inl (hw _ w_67)) Via.refl e0 (S_cs.ext O.2) (g := (mkF m 0 #[vr b, vr a] [])) rfl (hb hby d25_0)
  refine Fin.go st11 ?_
  show Fin _ _ _ _ _ _ _ _ T11 (mkF m 3 #[vr b, vr a] [(.int cs)])
  refine .go (fun _ k => XS.ifNo X11.here hx rfl (hb hby d25_3) rfl (XT.i0_eq_f hcs) k) ?_
  show Fin _ _ _ _ _ _ _ _ T11 (mkF m 6 #[vr b, vr a] [])
  refine .go (fun _ k => XS.aloadN X11.here hx rfl (hb hby d25_6) rfl rfl k) ?_
  obtain ⟨T12, X12, e12, st12⟩ := getF X11 hx hZ hown (host := "") (Or.inl (hw _ w_70)) Via.refl e11 G2 (g := (mkF m 7 #[vr b, vr a] [(.ref b)])) rfl rfl (hb hby d25_7)
  refine Fin.go st12 ?_
  show Fin _ _ _ _ _ _ _ _ T12 (mkF m 10 #[vr b, vr a] [(.int (0 : Int32))])
  refine .go (fun _ k => XS.aloadN X12.here hx rfl (hb hby d25_10) rfl rfl k) ?_
  obtain ⟨v13, T13, L13, X13, q13, st13⟩ := callVt X12 hx hZ (y := (⟨"java/lang/String", "coder", "()B"⟩ : MethodName)) hown (hw _ w_136) (hw _ w_89) (hw _ w_91) (hw _ w_90) (hw _ w_3) (hw _ w_92) (by decide) (W := 1) (rmCo0 l Z a0 hw n0 h0 O a F1 cs S_cs hcs) e12 A (by decide) (by decide) (by decide) (by decide) (g := (mkF m 11 #[vr b, vr a] [(.ref a), (.int (0 : Int32))])) rfl (by rw [hml]; rfl) (argsL := []) (rest := [(.int (0 : Int32))]) (lenOf pd_ocB rfl) rfl (wk rfl rfl) (hb hby d25_11)
  obtain ⟨rfl, e13, rfl⟩ := q13
  have N13 := Fr.app N0 (Fr.nil n0)
  refine Fin.go st13 ?_
  show Fin _ _ _ _ _ _ _ _ T13 (mkF m 14 #[vr b, vr a] [(.int (0 : Int32)), (.int (0 : Int32))])
  refine .go (fun _ k => XS.icmpYes X13.here hx rfl (pc0 := 14) (pc' := 21) rfl (hb hby d25_14) rfl (XT.ii_eq_t (by decide)) (by decide) (by decide) k) ?_
  show Fin _ _ _ _ _ _ _ _ T13 (mkF m 21 #[vr b, vr a] [])
  exact Fin.leaveN X13 e13 hlk (v := none) (fun _ => rfl) (by decide) (by decide) ⟨rfl, rfl, rfl⟩ (fun fs hr => X13.returnOut hx hret (hb hby d25_21) hr)
theorem rmIN10 (l : Launch) (Z : State) (a0 : Array Value) (hw : HW a0 Z) (n0 : Nat) (h0 : Heap) (O : Old Z n0 h0) (b a : Addr) (B : Exa Z h0 b "java/lang/StringBuilder") (G2 : Fld Z h0 b "java/lang/AbstractStringBuilder" "coder" "B" (.int (1 : Int32))) (A : Exa Z h0 a "java/lang/String") (F1 : Fld Z h0 a "java/lang/String" "coder" "B" (.int (0 : Int32))) (cs : Int32) (S_cs : Sta Z Z.heap "java/lang/String" "COMPACT_STRINGS" "Z" (.int cs)) (hcs : ¬ cs = 0) :
    ConW FrameEnd l Z [] (⟨"java/lang/AbstractStringBuilder", "inflateIfNeededFor", "(Ljava/lang/String;)V"⟩ : MethodName) jdk_68_method_71_code 2 none ({ frames := 2, cells := 0, slots := 0, locals := 25 } : Room) #[(.ref b), (.ref a)] h0 (Pure h0 none) := by
  refine conOf (plainFor_of_name pn_java_lang_AbstractStringBuilder) ?_
  intro p e s m below mth cc s₁ X0 hx hby hml hown hnm hret hlk hZ e0
  have N0 := Fr.nil n0
  refine Fin.came (castTop (t := _) (by first | (simp [entryFrame, mkF, argsToLocals, Value.category]; done) | rfl) (Steps.refl _) : Steps p.tables e below (s₁.setTop (entryFrame m #[(.ref b), (.ref a)] 2)) (s₁.setTop (mkF m 0 #[vr b, vr a] []))) ?_
  obtain ⟨T11, X11, e11, st11⟩ := getS2 X0 hx hZ hown (host := "") (Or.inl (hw _ w_67)) Via.refl e0 (S_cs.ext O.2) (g := (mkF m 0 #[vr b, vr a] [])) rfl (hb hby d25_0)
  refine Fin.go st11 ?_
  show Fin _ _ _ _ _ _ _ _ T11 (mkF m 3 #[vr b, vr a] [(.int cs)])
  refine .go (fun _ k => XS.ifNo X11.here hx rfl (hb hby d25_3) rfl (XT.i0_eq_f hcs) k) ?_
  show Fin _ _ _ _ _ _ _ _ T11 (mkF m 6 #[vr b, vr a] [])
  refine .go (fun _ k => XS.aloadN X11.here hx rfl (hb hby d25_6) rfl rfl k) ?_
  obtain ⟨T12, X12, e12, st12⟩ := getF X11 hx hZ hown (host := "") (Or.inl (hw _ w_70)) Via.refl e11 G2 (g := (mkF m 7 #[vr b, vr a] [(.ref b)])) rfl rfl (hb hby d25_7)
  refine Fin.go st12 ?_
  show Fin _ _ _ _ _ _ _ _ T12 (mkF m 10 #[vr b, vr a] [(.int (1 : Int32))])
  refine .go (fun _ k => XS.aloadN X12.here hx rfl (hb hby d25_10) rfl rfl k) ?_
  obtain ⟨v13, T13, L13, X13, q13, st13⟩ := callVt X12 hx hZ (y := (⟨"java/lang/String", "coder", "()B"⟩ : MethodName)) hown (hw _ w_136) (hw _ w_89) (hw _ w_91) (hw _ w_90) (hw _ w_3) (hw _ w_92) (by decide) (W := 1) (rmCo0 l Z a0 hw n0 h0 O a F1 cs S_cs hcs) e12 A (by decide) (by decide) (by decide) (by decide) (g := (mkF m 11 #[vr b, vr a] [(.ref a), (.int (1 : Int32))])) rfl (by rw [hml]; rfl) (argsL := []) (rest := [(.int (1 : Int32))]) (lenOf pd_ocB rfl) rfl (wk rfl rfl) (hb hby d25_11)
  obtain ⟨rfl, e13, rfl⟩ := q13
  have N13 := Fr.app N0 (Fr.nil n0)
  refine Fin.go st13 ?_
  show Fin _ _ _ _ _ _ _ _ T13 (mkF m 14 #[vr b, vr a] [(.int (0 : Int32)), (.int (1 : Int32))])
  refine .go (fun _ k => XS.icmpNo X13.here hx rfl (hb hby d25_14) rfl (XT.ii_eq_f (by decide)) k) ?_
  show Fin _ _ _ _ _ _ _ _ T13 (mkF m 17 #[vr b, vr a] [])
  refine .go (fun _ k => XS.aloadN X13.here hx rfl (hb hby d25_17) rfl rfl k) ?_
  obtain ⟨v14, T14, L14, X14, q14, st14⟩ := callVt X13 hx hZ (y := (⟨"java/lang/AbstractStringBuilder", "inflate", "()V"⟩ : MethodName)) hown (hw _ w_265) (declOf (hw _ w_266) (hw _ w_269)) (hw _ w_268) (hw _ w_266) (hw _ w_64) (hw _ w_269) (by decide) (W := 0) (rmIfB l Z a0 hw n0 h0 O b B G2 cs S_cs hcs) e13 B (by decide) (by decide) (by decide) (by decide) (g := (mkF m 18 #[vr b, vr a] [(.ref b)])) rfl (by rw [hml]; rfl) (argsL := []) (rest := []) (lenOf pd_ocV rfl) rfl (wk rfl rfl) (hb hby d25_18)
  obtain ⟨rfl, e14, rfl⟩ := q14
  have N14 := Fr.app N13 (Fr.nil n0)
  refine Fin.go st14 ?_
  show Fin _ _ _ _ _ _ _ _ T14 (mkF m 21 #[vr b, vr a] [])
  exact Fin.leaveN X14 e14 hlk (v := none) (fun _ => rfl) (by decide) (by decide) ⟨rfl, rfl, rfl⟩ (fun fs hr => X14.returnOut hx hret (hb hby d25_21) hr)
theorem rmIN01 (l : Launch) (Z : State) (a0 : Array Value) (hw : HW a0 Z) (n0 : Nat) (h0 : Heap) (O : Old Z n0 h0) (b d : Addr) (kd : ClassId) (xs : List Int32) (N : Nat) (hN : xs.length ≤ N) (hN' : N ≤ 64) (hlx : Lat xs) (hcx : ∀ k, k < xs.length → ChI (xs.getD k 0)) (B : Exa Z h0 b "java/lang/StringBuilder") (G1 : Fld Z h0 b "java/lang/AbstractStringBuilder" "value" "[B" (.ref d)) (G2 : Fld Z h0 b "java/lang/AbstractStringBuilder" "coder" "B" (.int (0 : Int32))) (G3 : Fld Z h0 b "java/lang/AbstractStringBuilder" "count" "I" (.int (Int32.ofNat xs.length))) (G4 : Fld Z h0 b "java/lang/AbstractStringBuilder" "maybeLatin1" "Z" (.int (0 : Int32))) (VD : Arv Z h0 d kd .byte (Int32.ofNat N) (ivL (bb0 xs N)) (.int (0 : Int32))) (nb : n0 ≤ b) (ndb : d ≠ b) (cs : Int32) (S_cs : Sta Z Z.heap "java/lang/String" "COMPACT_STRINGS" "Z" (.int cs)) (hcs : ¬ cs = 0) (S_as : SAs Z) (S_hb : SHb Z) (S_lb : SLb Z) (fm : Value) (hfm : fm.isRef = true) (S_fm : SFm Z fm) (a : Addr) (A : Exa Z h0 a "java/lang/String") (F1 : Fld Z h0 a "java/lang/String" "coder" "B" (.int (1 : Int32))) :
    ConW FrameEnd l Z [] (⟨"java/lang/AbstractStringBuilder", "inflateIfNeededFor", "(Ljava/lang/String;)V"⟩ : MethodName) jdk_68_method_71_code 2 none ({ frames := 6, cells := 1, slots := 128, locals := 89 } : Room) #[(.ref b), (.ref a)] h0 (fun v h L => v = none ∧ Fr n0 L ∧ Keep h0 h [b] ∧ ∃ dn kn, Exa Z h b "java/lang/StringBuilder" ∧ Fld Z h b "java/lang/AbstractStringBuilder" "value" "[B" (.ref dn) ∧ Fld Z h b "java/lang/AbstractStringBuilder" "coder" "B" (.int (1 : Int32)) ∧ Fld Z h b "java/lang/AbstractStringBuilder" "count" "I" (.int (Int32.ofNat xs.length)) ∧ Fld Z h b "java/lang/AbstractStringBuilder" "maybeLatin1" "Z" (.int (0 : Int32)) ∧ Arv Z h dn kn .byte (Int32.ofNat (2 * N)) (ivL (bb1 xs N)) (.int (0 : Int32)) ∧ h0.size ≤ dn) := by
  refine conOf (plainFor_of_name pn_java_lang_AbstractStringBuilder) ?_
  intro p e s m below mth cc s₁ X0 hx hby hml hown hnm hret hlk hZ e0
  have N0 := Fr.nil n0
  have K0 := Keep.refl h0 ([b] : List Addr)
  refine Fin.came (castTop (t := _) (by first | (simp [entryFrame, mkF, argsToLocals, Value.category]; done) | rfl) (Steps.refl _) : Steps p.tables e below (s₁.setTop (entryFrame m #[(.ref b), (.ref a)] 2)) (s₁.setTop (mkF m 0 #[vr b, vr a] []))) ?_
  obtain ⟨T11, X11, e11, st11⟩ := getS2 X0 hx hZ hown (host := "") (Or.inl (hw _ w_67)) Via.refl e0 (S_cs.ext O.2) (g := (mkF m 0 #[vr b, vr a] [])) rfl (hb hby d25_0)
  refine Fin.go st11 ?_
  show Fin _ _ _ _ _ _ _ _ T11 (mkF m 3 #[vr b, vr a] [(.int cs)])
  refine .go (fun _ k => XS.ifNo X11.here hx rfl (hb hby d25_3) rfl (XT.i0_eq_f hcs) k) ?_
  show Fin _ _ _ _ _ _ _ _ T11 (mkF m 6 #[vr b, vr a] [])
  refine .go (fun _ k => XS.aloadN X11.here hx rfl (hb hby d25_6) rfl rfl k) ?_
  obtain ⟨T12, X12, e12, st12⟩ := getF X11 hx hZ hown (host := "") (Or.inl (hw _ w_70)) Via.refl e11 G2 (g := (mkF m 7 #[vr b, vr a] [(.ref b)])) rfl rfl (hb hby d25_7)
  refine Fin.go st12 ?_
  show Fin _ _ _ _ _ _ _ _ T12 (mkF m 10 #[vr b, vr a] [(.int (0 : Int32))])
  refine .go (fun _ k => XS.aloadN X12.here hx rfl (hb hby d25_10) rfl rfl k) ?_
  obtain ⟨v13, T13, L13, X13, q13, st13⟩ := callVt X12 hx hZ (y := (⟨"java/lang/String", "coder", "()B"⟩ : MethodName)) hown (hw _ w_136) (hw _ w_89) (hw _ w_91) (hw _ w_90) (hw _ w_3) (hw _ w_92) (by decide) (W := 1) (rmCo1 l Z a0 hw n0 h0 O a F1 cs S_cs hcs) e12 A (by decide) (by decide) (by decide) (by decide) (g := (mkF m 11 #[vr b, vr a] [(.ref a), (.int (0 : Int32))])) rfl (by rw [hml]; rfl) (argsL := []) (rest := [(.int (0 : Int32))]) (lenOf pd_ocB rfl) rfl (wk rfl rfl) (hb hby d25_11)
  obtain ⟨rfl, e13, rfl⟩ := q13
  have N13 := Fr.app N0 (Fr.nil n0)
  refine Fin.go st13 ?_
  show Fin _ _ _ _ _ _ _ _ T13 (mkF m 14 #[vr b, vr a] [(.int (1 : Int32)), (.int (0 : Int32))])
  refine .go (fun _ k => XS.icmpNo X13.here hx rfl (hb hby d25_14) rfl (XT.ii_eq_f (by decide)) k) ?_
  show Fin _ _ _ _ _ _ _ _ T13 (mkF m 17 #[vr b, vr a] [])
  refine .go (fun _ k => XS.aloadN X13.here hx rfl (hb hby d25_17) rfl rfl k) ?_
  obtain ⟨v14, T14, L14, X14, q14, st14⟩ := callVt X13 hx hZ (y := (⟨"java/lang/AbstractStringBuilder", "inflate", "()V"⟩ : MethodName)) hown (hw _ w_265) (declOf (hw _ w_266) (hw _ w_269)) (hw _ w_268) (hw _ w_266) (hw _ w_64) (hw _ w_269) (by decide) (W := 0) (rmIfA l Z a0 hw n0 h0 O b d kd xs N hN hN' hlx hcx B G1 G2 G3 G4 VD nb ndb cs S_cs hcs S_as S_hb S_lb fm hfm S_fm) e13 B (by decide) (by decide) (by decide) (by decide) (g := (mkF m 18 #[vr b, vr a] [(.ref b)])) rfl (by rw [hml]; rfl) (argsL := []) (rest := []) (lenOf pd_ocV rfl) rfl (wk rfl rfl) (hb hby d25_18)
  obtain ⟨rfl, Nq14, Kq14, d14, kd14, B14, G114, G214, G314, G414, V14, zd14⟩ := q14
  have N14 := Fr.app N13 Nq14
  have O14 := O.keep Kq14 (allS nb all0)
  have K14 := K0.trans Kq14 (allS (Or.inl (List.mem_of_getElem? (i := 0) rfl)) all0)
  refine Fin.go st14 ?_
  show Fin _ _ _ _ _ _ _ _ T14 (mkF m 21 #[vr b, vr a] [])
  have nzd14 : n0 ≤ d14 := Nat.le_trans (by have := O.1; have := O.2.1; omega) zd14
  have hzd14 : h0.size ≤ d14 := Nat.le_trans K0.1 zd14
  exact Fin.leaveN X14 (rfl : T14.heap = T14.heap) hlk (v := none) (fun _ => rfl) (by decide) (by decide) ⟨rfl, N14, K14, d14, kd14, B14, G114, G214, G314, G414, V14, hzd14⟩ (fun fs hr => X14.returnOut hx hret (hb hby d25_21) hr)
theorem rmGB00 (l : Launch) (Z : State) (a0 : Array Value) (hw : HW a0 Z) (n0 : Nat) (h0 : Heap) (O : Old Z n0 h0) (a d q : Addr) (kd kq : ClassId) (xs ys : List Int32) (N : Nat) (hN : xs.length + ys.length ≤ N) (hN' : N ≤ 64) (A : Exa Z h0 a "java/lang/String") (F1 : Fld Z h0 a "java/lang/String" "coder" "B" (.int (0 : Int32))) (F2 : Fld Z h0 a "java/lang/String" "value" "[B" (.ref q)) (VQ : Arv Z h0 q kq .byte (Int32.ofNat ys.length) (ivL (ys.map b8f)) (.int (0 : Int32))) (VD : Arv Z h0 d kd .byte (Int32.ofNat N) (ivL (bb0 xs N)) (.int (0 : Int32))) (nd : n0 ≤ d) (nqd : q ≠ d) (cs : Int32) (S_cs : Sta Z Z.heap "java/lang/String" "COMPACT_STRINGS" "Z" (.int cs)) (hcs : ¬ cs = 0) :
    ConW FrameEnd l Z [] (⟨"java/lang/String", "getBytes", "([BIB)V"⟩ : MethodName) jdk_42_method_147_code 4 none ({ frames := 1, cells := 0, slots := 0, locals := 60 } : Room) #[(.ref a), (.ref d), (.int (Int32.ofNat xs.length)), (.int (0 : Int32))] h0 (fun v h L => v = none ∧ Fr n0 L ∧ Keep h0 h [d] ∧ Arv Z h d kd .byte (Int32.ofNat N) (ivL (bb0 (xs ++ ys) N)) (.int (0 : Int32))) := by
  refine conOf (plainFor_of_name pn_java_lang_String) ?_
  intro p e s m below mth cc s₁ X0 hx hby hml hown hnm hret hlk hZ e0
  have N0 := Fr.nil n0
  have K0 := Keep.refl h0 ([d] : List Addr)
  refine Fin.came (castTop (t := _) (by first | (simp [entryFrame, mkF, argsToLocals, Value.category]; done) | rfl) (Steps.refl _) : Steps p.tables e below (s₁.setTop (entryFrame m #[(.ref a), (.ref d), (.int (Int32.ofNat xs.length)), (.int (0 : Int32))] 4)) (s₁.setTop (mkF m 0 #[vr a, vr d, vi (Int32.ofNat xs.length), vi (0 : Int32)] []))) ?_
  refine .go (fun _ k => XS.aloadN X0.here hx rfl (hb hby d26_0) rfl rfl k) ?_
  obtain ⟨v11, T11, L11, X11, q11, st11⟩ := callVt X0 hx hZ (y := (⟨"java/lang/String", "coder", "()B"⟩ : MethodName)) hown (hw _ w_88) (hw _ w_89) (hw _ w_91) (hw _ w_90) (hw _ w_3) (hw _ w_92) (by decide) (W := 0) (rmCo0 l Z a0 hw n0 h0 O a F1 cs S_cs hcs) e0 A (by decide) (by decide) (by decide) (by decide) (g := (mkF m 1 #[vr a, vr d, vi (Int32.ofNat xs.length), vi (0 : Int32)] [(.ref a)])) rfl (by rw [hml]; rfl) (argsL := []) (rest := []) (lenOf pd_ocB rfl) rfl (wk rfl rfl) (hb hby d26_1)
  obtain ⟨rfl, e11, rfl⟩ := q11
  have N11 := Fr.app N0 (Fr.nil n0)
  refine Fin.go st11 ?_
  show Fin _ _ _ _ _ _ _ _ T11 (mkF m 4 #[vr a, vr d, vi (Int32.ofNat xs.length), vi (0 : Int32)] [(.int (0 : Int32))])
  refine .go (fun _ k => XS.iloadN X11.here hx rfl (hb hby d26_4) rfl k) ?_
  refine .go (fun _ k => XS.icmpNo X11.here hx rfl (hb hby d26_5) rfl (XT.ii_ne_f (by decide)) k) ?_
  show Fin _ _ _ _ _ _ _ _ T11 (mkF m 8 #[vr a, vr d, vi (Int32.ofNat xs.length), vi (0 : Int32)] [])
  refine .go (fun _ k => XS.aloadN X11.here hx rfl (hb hby d26_8) rfl rfl k) ?_
  obtain ⟨T12, X12, e12, st12⟩ := getF X11 hx hZ hown (host := "") (Or.inl (hw _ w_23)) Via.refl e11 F2 (g := (mkF m 9 #[vr a, vr d, vi (Int32.ofNat xs.length), vi (0 : Int32)] [(.ref a)])) rfl rfl (hb hby d26_9)
  refine Fin.go st12 ?_
  show Fin _ _ _ _ _ _ _ _ T12 (mkF m 12 #[vr a, vr d, vi (Int32.ofNat xs.length), vi (0 : Int32)] [(.ref q)])
  refine .go (fun _ k => XS.iconst X12.here hx rfl (hb hby d26_12) k) ?_
  refine .go (fun _ k => XS.aloadN X12.here hx rfl (hb hby d26_13) rfl rfl k) ?_
  refine .go (fun _ k => XS.iloadN X12.here hx rfl (hb hby d26_14) rfl k) ?_
  refine .go (fun _ k => XS.iloadN X12.here hx rfl (hb hby d26_15) rfl k) ?_
  show Fin _ _ _ _ _ _ _ _ T12 (mkF m 16 #[vr a, vr d, vi (Int32.ofNat xs.length), vi (0 : Int32)] [(.int (0 : Int32)), (.int (Int32.ofNat xs.length)), (.ref d), (.int (0 : Int32)), (.ref q)])
  refine .go (fun _ k => XT.ishl X12.here hx rfl (hb hby d26_16) rfl k) ?_
  show Fin _ _ _ _ _ _ _ _ T12 (mkF m 17 #[vr a, vr d, vi (Int32.ofNat xs.length), vi (0 : Int32)] [(.int ((Int32.ofNat xs.length) <<< ((0 : Int32) &&& 31))), (.ref d), (.int (0 : Int32)), (.ref q)])
  show Fin _ _ _ _ _ _ _ _ T12 (mkF m 17 #[vr a, vr d, vi (Int32.ofNat xs.length), vi (0 : Int32)] [(.int ((Int32.ofNat xs.length) <<< ((0 : Int32) &&& 31))), (.ref d), (.int (0 : Int32)), (.ref q)])
  rw [shl0 xs.length (by omega)]
  show Fin _ _ _ _ _ _ _ _ T12 (mkF m 17 #[vr a, vr d, vi (Int32.ofNat xs.length), vi (0 : Int32)] [(.int (Int32.ofNat xs.length)), (.ref d), (.int (0 : Int32)), (.ref q)])
  refine .go (fun _ k => XS.aloadN X12.here hx rfl (hb hby d26_17) rfl rfl k) ?_
  obtain ⟨T13, X13, e13, st13⟩ := getF X12 hx hZ hown (host := "") (Or.inl (hw _ w_23)) Via.refl e12 F2 (g := (mkF m 18 #[vr a, vr d, vi (Int32.ofNat xs.length), vi (0 : Int32)] [(.ref a), (.int (Int32.ofNat xs.length)), (.ref d), (.int (0 : Int32)), (.ref q)])) rfl rfl (hb hby d26_18)
  refine Fin.go st13 ?_
  show Fin _ _ _ _ _ _ _ _ T13 (mkF m 21 #[vr a, vr d, vi (Int32.ofNat xs.length), vi (0 : Int32)] [(.ref q), (.int (Int32.ofNat xs.length)), (.ref d), (.int (0 : Int32)), (.ref q)])
  obtain ⟨cz14, B14, q14, S14, M14, H14, G14⟩ := id VQ
  refine Fin.go (fun _ k => X13.arraylength hx (by rw [e13]; exact B14.1) (State.isArrayOf_alike hZ.alike B14.2.1) (g := (mkF m 21 #[vr a, vr d, vi (Int32.ofNat xs.length), vi (0 : Int32)] [(.ref q), (.int (Int32.ofNat xs.length)), (.ref d), (.int (0 : Int32)), (.ref q)])) rfl rfl (hb hby d26_21) _ k) ?_
  rw [len_of S14 M14]
  show Fin _ _ _ _ _ _ _ _ T13 (mkF m 22 #[vr a, vr d, vi (Int32.ofNat xs.length), vi (0 : Int32)] [(.int (Int32.ofNat ys.length)), (.int (Int32.ofNat xs.length)), (.ref d), (.int (0 : Int32)), (.ref q)])
  obtain ⟨T15, h15, L15, X15, e15, Nc15, Kq15, Vq15, st15⟩ := cpA X13 hx hZ hown (hw _ w_142) (hw _ w_125) (hw _ w_123) (hw _ w_124) e13 VQ VD (Or.inl ⟨rfl, rfl⟩) (by decide) (on_g (i := xs.length) (by omega)) (on_g (i := ys.length) (by omega)) (by rw [i0, on_n (i := ys.length) (by omega)]; omega) (by rw [on_n (i := xs.length) (by omega), on_n (i := ys.length) (by omega), on_n (i := N) (by omega)]; omega) rfl (by rw [on_n (i := xs.length) (by omega), on_n (i := ys.length) (by omega), ivl, bb0_len (by omega)]; omega) N11 nd (g := (mkF m 22 #[vr a, vr d, vi (Int32.ofNat xs.length), vi (0 : Int32)] [(.int (Int32.ofNat ys.length)), (.int (Int32.ofNat xs.length)), (.ref d), (.int (0 : Int32)), (.ref q)])) rfl (by rw [hml]; rfl) rfl (hb hby d26_22) (by decide) (W := 0) (wk rfl rfl) (by decide)
  have V15 : Arv Z h15 d kd .byte (Int32.ofNat N) (ivL (bb0 (xs ++ ys) N)) (.int (0 : Int32)) := by have q := Vq15; rw [i0, on_n (i := xs.length) (by omega), on_n (i := ys.length) (by omega), cpL _ _ _ _ _ (by rw [List.length_map]; omega)] at q; rw [bb0_cp] at q; exact q
  have O15 := O.keep Kq15 (allS nd all0)
  have K15 := K0.trans Kq15 (allS (Or.inl (List.mem_of_getElem? (i := 0) rfl)) all0)
  refine Fin.go st15 ?_
  show Fin _ _ _ _ _ _ _ _ T15 (mkF m 25 #[vr a, vr d, vi (Int32.ofNat xs.length), vi (0 : Int32)] [])
  refine .go (fun _ k => XS.goto X15.here hx rfl (pc0 := 25) (pc' := 43) rfl (hb hby d26_25) (by decide) (by decide) k) ?_
  exact Fin.leaveN X15 e15 hlk (v := none) (fun _ => rfl) (by decide) (by decide) ⟨rfl, Nc15, K15, V15⟩ (fun fs hr => X15.returnOut hx hret (hb hby d26_43) hr)
theorem rmGB11 (l : Launch) (Z : State) (a0 : Array Value) (hw : HW a0 Z) (n0 : Nat) (h0 : Heap) (O : Old Z n0 h0) (a d q : Addr) (kd kq : ClassId) (xs ys : List Int32) (N : Nat) (hN : xs.length + ys.length ≤ N) (hN' : N ≤ 64) (A : Exa Z h0 a "java/lang/String") (F1 : Fld Z h0 a "java/lang/String" "coder" "B" (.int (1 : Int32))) (F2 : Fld Z h0 a "java/lang/String" "value" "[B" (.ref q)) (VQ : Arv Z h0 q kq .byte (Int32.ofNat (2 * ys.length)) (ivL (u8 ys)) (.int (0 : Int32))) (VD : Arv Z h0 d kd .byte (Int32.ofNat (2 * N)) (ivL (bb1 xs N)) (.int (0 : Int32))) (nd : n0 ≤ d) (nqd : q ≠ d) (cs : Int32) (S_cs : Sta Z Z.heap "java/lang/String" "COMPACT_STRINGS" "Z" (.int cs)) (hcs : ¬ cs = 0) :
    ConW FrameEnd l Z [] (⟨"java/lang/String", "getBytes", "([BIB)V"⟩ : MethodName) jdk_42_method_147_code 4 none ({ frames := 1, cells := 0, slots := 0, locals := 60 } : Room) #[(.ref a), (.ref d), (.int (Int32.ofNat xs.length)), (.int (1 : Int32))] h0 (fun v h L => v = none ∧ Fr n0 L ∧ Keep h0 h [d] ∧ Arv Z h d kd .byte (Int32.ofNat (2 * N)) (ivL (bb1 (xs ++ ys) N)) (.int (0 : Int32))) := by
  refine conOf (plainFor_of_name pn_java_lang_String) ?_
  intro p e s m below mth cc s₁ X0 hx hby hml hown hnm hret hlk hZ e0
  have N0 := Fr.nil n0
  have K0 := Keep.refl h0 ([d] : List Addr)
  refine Fin.came (castTop (t := _) (by first | (simp [entryFrame, mkF, argsToLocals, Value.category]; done) | rfl) (Steps.refl _) : Steps p.tables e below (s₁.setTop (entryFrame m #[(.ref a), (.ref d), (.int (Int32.ofNat xs.length)), (.int (1 : Int32))] 4)) (s₁.setTop (mkF m 0 #[vr a, vr d, vi (Int32.ofNat xs.length), vi (1 : Int32)] []))) ?_
  refine .go (fun _ k => XS.aloadN X0.here hx rfl (hb hby d26_0) rfl rfl k) ?_
  obtain ⟨v11, T11, L11, X11, q11, st11⟩ := callVt X0 hx hZ (y := (⟨"java/lang/String", "coder", "()B"⟩ : MethodName)) hown (hw _ w_88) (hw _ w_89) (hw _ w_91) (hw _ w_90) (hw _ w_3) (hw _ w_92) (by decide) (W := 0) (rmCo1 l Z a0 hw n0 h0 O a F1 cs S_cs hcs) e0 A (by decide) (by decide) (by decide) (by decide) (g := (mkF m 1 #[vr a, vr d, vi (Int32.ofNat xs.length), vi (1 : Int32)] [(.ref a)])) rfl (by rw [hml]; rfl) (argsL := []) (rest := []) (lenOf pd_ocB rfl) rfl (wk rfl rfl) (hb hby d26_1)
  obtain ⟨rfl, e11, rfl⟩ := q11
  have N11 := Fr.app N0 (Fr.nil n0)
  refine Fin.go st11 ?_
  show Fin _ _ _ _ _ _ _ _ T11 (mkF m 4 #[vr a, vr d, vi (Int32.ofNat xs.length), vi (1 : Int32)] [(.int (1 : Int32))])
  refine .go (fun _ k => XS.iloadN X11.here hx rfl (hb hby d26_4) rfl k) ?_
  refine .go (fun _ k => XS.icmpNo X11.here hx rfl (hb hby d26_5) rfl (XT.ii_ne_f (by decide)) k) ?_
  show Fin _ _ _ _ _ _ _ _ T11 (mkF m 8 #[vr a, vr d, vi (Int32.ofNat xs.length), vi (1 : Int32)] [])
  refine .go (fun _ k => XS.aloadN X11.here hx rfl (hb hby d26_8) rfl rfl k) ?_
  obtain ⟨T12, X12, e12, st12⟩ := getF X11 hx hZ hown (host := "") (Or.inl (hw _ w_23)) Via.refl e11 F2 (g := (mkF m 9 #[vr a, vr d, vi (Int32.ofNat xs.length), vi (1 : Int32)] [(.ref a)])) rfl rfl (hb hby d26_9)
  refine Fin.go st12 ?_
  show Fin _ _ _ _ _ _ _ _ T12 (mkF m 12 #[vr a, vr d, vi (Int32.ofNat xs.length), vi (1 : Int32)] [(.ref q)])
  refine .go (fun _ k => XS.iconst X12.here hx rfl (hb hby d26_12) k) ?_
  refine .go (fun _ k => XS.aloadN X12.here hx rfl (hb hby d26_13) rfl rfl k) ?_
  refine .go (fun _ k => XS.iloadN X12.here hx rfl (hb hby d26_14) rfl k) ?_
  refine .go (fun _ k => XS.iloadN X12.here hx rfl (hb hby d26_15) rfl k) ?_
  show Fin _ _ _ _ _ _ _ _ T12 (mkF m 16 #[vr a, vr d, vi (Int32.ofNat xs.length), vi (1 : Int32)] [(.int (1 : Int32)), (.int (Int32.ofNat xs.length)), (.ref d), (.int (0 : Int32)), (.ref q)])
  refine .go (fun _ k => XT.ishl X12.here hx rfl (hb hby d26_16) rfl k) ?_
  show Fin _ _ _ _ _ _ _ _ T12 (mkF m 17 #[vr a, vr d, vi (Int32.ofNat xs.length), vi (1 : Int32)] [(.int ((Int32.ofNat xs.length) <<< ((1 : Int32) &&& 31))), (.ref d), (.int (0 : Int32)), (.ref q)])
  show Fin _ _ _ _ _ _ _ _ T12 (mkF m 17 #[vr a, vr d, vi (Int32.ofNat xs.length), vi (1 : Int32)] [(.int ((Int32.ofNat xs.length) <<< ((1 : Int32) &&& 31))), (.ref d), (.int (0 : Int32)), (.ref q)])
  rw [on_2 (i := xs.length) (by omega)]
  show Fin _ _ _ _ _ _ _ _ T12 (mkF m 17 #[vr a, vr d, vi (Int32.ofNat xs.length), vi (1 : Int32)] [(.int (Int32.ofNat (2 * xs.length))), (.ref d), (.int (0 : Int32)), (.ref q)])
  refine .go (fun _ k => XS.aloadN X12.here hx rfl (hb hby d26_17) rfl rfl k) ?_
  obtain ⟨T13, X13, e13, st13⟩ := getF X12 hx hZ hown (host := "") (Or.inl (hw _ w_23)) Via.refl e12 F2 (g := (mkF m 18 #[vr a, vr d, vi (Int32.ofNat xs.length), vi (1 : Int32)] [(.ref a), (.int (Int32.ofNat (2 * xs.length))), (.ref d), (.int (0 : Int32)), (.ref q)])) rfl rfl (hb hby d26_18)
  refine Fin.go st13 ?_
  show Fin _ _ _ _ _ _ _ _ T13 (mkF m 21 #[vr a, vr d, vi (Int32.ofNat xs.length), vi (1 : Int32)] [(.ref q), (.int (Int32.ofNat (2 * xs.length))), (.ref d), (.int (0 : Int32)), (.ref q)])
  obtain ⟨cz14, B14, q14, S14, M14, H14, G14⟩ := id VQ
  refine Fin.go (fun _ k => X13.arraylength hx (by rw [e13]; exact B14.1) (State.isArrayOf_alike hZ.alike B14.2.1) (g := (mkF m 21 #[vr a, vr d, vi (Int32.ofNat xs.length), vi (1 : Int32)] [(.ref q), (.int (Int32.ofNat (2 * xs.length))), (.ref d), (.int (0 : Int32)), (.ref q)])) rfl rfl (hb hby d26_21) _ k) ?_
  rw [len_of S14 M14]
  show Fin _ _ _ _ _ _ _ _ T13 (mkF m 22 #[vr a, vr d, vi (Int32.ofNat xs.length), vi (1 : Int32)] [(.int (Int32.ofNat (2 * ys.length))), (.int (Int32.ofNat (2 * xs.length))), (.ref d), (.int (0 : Int32)), (.ref q)])
  obtain ⟨T15, h15, L15, X15, e15, Nc15, Kq15, Vq15, st15⟩ := cpA X13 hx hZ hown (hw _ w_142) (hw _ w_125) (hw _ w_123) (hw _ w_124) e13 VQ VD (Or.inl ⟨rfl, rfl⟩) (by decide) (on_g (i := (2 * xs.length)) (by omega)) (on_g (i := (2 * ys.length)) (by omega)) (by rw [i0, on_n (i := 2 * ys.length) (by omega)]; omega) (by rw [on_n (i := 2 * xs.length) (by omega), on_n (i := 2 * ys.length) (by omega), on_n (i := 2 * N) (by omega)]; omega) rfl (by rw [on_n (i := 2 * xs.length) (by omega), on_n (i := 2 * ys.length) (by omega), ivl, bb1_len (by omega)]; omega) N11 nd (g := (mkF m 22 #[vr a, vr d, vi (Int32.ofNat xs.length), vi (1 : Int32)] [(.int (Int32.ofNat (2 * ys.length))), (.int (Int32.ofNat (2 * xs.length))), (.ref d), (.int (0 : Int32)), (.ref q)])) rfl (by rw [hml]; rfl) rfl (hb hby d26_22) (by decide) (W := 0) (wk rfl rfl) (by decide)
  have V15 : Arv Z h15 d kd .byte (Int32.ofNat (2 * N)) (ivL (bb1 (xs ++ ys) N)) (.int (0 : Int32)) := by have q := Vq15; rw [i0, on_n (i := (2 * xs.length)) (by omega), on_n (i := (2 * ys.length)) (by omega), cpL _ _ _ _ _ (by rw [u8_len]; omega)] at q; rw [bb1_cp] at q; exact q
  have O15 := O.keep Kq15 (allS nd all0)
  have K15 := K0.trans Kq15 (allS (Or.inl (List.mem_of_getElem? (i := 0) rfl)) all0)
  refine Fin.go st15 ?_
  show Fin _ _ _ _ _ _ _ _ T15 (mkF m 25 #[vr a, vr d, vi (Int32.ofNat xs.length), vi (1 : Int32)] [])
  refine .go (fun _ k => XS.goto X15.here hx rfl (pc0 := 25) (pc' := 43) rfl (hb hby d26_25) (by decide) (by decide) k) ?_
  exact Fin.leaveN X15 e15 hlk (v := none) (fun _ => rfl) (by decide) (by decide) ⟨rfl, Nc15, K15, V15⟩ (fun fs hr => X15.returnOut hx hret (hb hby d26_43) hr)
theorem rmGB01 (l : Launch) (Z : State) (a0 : Array Value) (hw : HW a0 Z) (n0 : Nat) (h0 : Heap) (O : Old Z n0 h0) (a d q : Addr) (kd kq : ClassId) (xs ys : List Int32) (N : Nat) (hN : xs.length + ys.length ≤ N) (hN' : N ≤ 64) (A : Exa Z h0 a "java/lang/String") (F1 : Fld Z h0 a "java/lang/String" "coder" "B" (.int (0 : Int32))) (F2 : Fld Z h0 a "java/lang/String" "value" "[B" (.ref q)) (VQ : Arv Z h0 q kq .byte (Int32.ofNat ys.length) (ivL (ys.map b8f)) (.int (0 : Int32))) (VD : Arv Z h0 d kd .byte (Int32.ofNat (2 * N)) (ivL (bb1 xs N)) (.int (0 : Int32))) (nd : n0 ≤ d) (nqd : q ≠ d) (cs : Int32) (S_cs : Sta Z Z.heap "java/lang/String" "COMPACT_STRINGS" "Z" (.int cs)) (hcs : ¬ cs = 0) (hly : Lat ys) (hcy : ∀ k, k < ys.length → ChI (ys.getD k 0)) (S_as : SAs Z) (S_hb : SHb Z) (S_lb : SLb Z) (fm : Value) (hfm : fm.isRef = true) (S_fm : SFm Z fm) :
    ConW FrameEnd l Z [] (⟨"java/lang/String", "getBytes", "([BIB)V"⟩ : MethodName) jdk_42_method_147_code 4 none ({ frames := 5, cells := 0, slots := 0, locals := 76 } : Room) #[(.ref a), (.ref d), (.int (Int32.ofNat xs.length)), (.int (1 : Int32))] h0 (fun v h L => v = none ∧ Fr n0 L ∧ Keep h0 h [d] ∧ Arv Z h d kd .byte (Int32.ofNat (2 * N)) (ivL (bb1 (xs ++ ys) N)) (.int (0 : Int32))) := by
  refine conOf (plainFor_of_name pn_java_lang_String) ?_
  intro p e s m below mth cc s₁ X0 hx hby hml hown hnm hret hlk hZ e0
  have N0 := Fr.nil n0
  have K0 := Keep.refl h0 ([d] : List Addr)
  refine Fin.came (castTop (t := _) (by first | (simp [entryFrame, mkF, argsToLocals, Value.category]; done) | rfl) (Steps.refl _) : Steps p.tables e below (s₁.setTop (entryFrame m #[(.ref a), (.ref d), (.int (Int32.ofNat xs.length)), (.int (1 : Int32))] 4)) (s₁.setTop (mkF m 0 #[vr a, vr d, vi (Int32.ofNat xs.length), vi (1 : Int32)] []))) ?_
  refine .go (fun _ k => XS.aloadN X0.here hx rfl (hb hby d26_0) rfl rfl k) ?_
  obtain ⟨v11, T11, L11, X11, q11, st11⟩ := callVt X0 hx hZ (y := (⟨"java/lang/String", "coder", "()B"⟩ : MethodName)) hown (hw _ w_88) (hw _ w_89) (hw _ w_91) (hw _ w_90) (hw _ w_3) (hw _ w_92) (by decide) (W := 0) (rmCo0 l Z a0 hw n0 h0 O a F1 cs S_cs hcs) e0 A (by decide) (by decide) (by decide) (by decide) (g := (mkF m 1 #[vr a, vr d, vi (Int32.ofNat xs.length), vi (1 : Int32)] [(.ref a)])) rfl (by rw [hml]; rfl) (argsL := []) (rest := []) (lenOf pd_ocB rfl) rfl (wk rfl rfl) (hb hby d26_1)
  obtain ⟨rfl, e11, rfl⟩ := q11
  have N11 := Fr.app N0 (Fr.nil n0)
  refine Fin.go st11 ?_
  show Fin _ _ _ _ _ _ _ _ T11 (mkF m 4 #[vr a, vr d, vi (Int32.ofNat xs.length), vi (1 : Int32)] [(.int (0 : Int32))])
  refine .go (fun _ k => XS.iloadN X11.here hx rfl (hb hby d26_4) rfl k) ?_
  refine .go (fun _ k => XS.icmpYes X11.here hx rfl (pc0 := 5) (pc' := 28) rfl (hb hby d26_5) rfl (XT.ii_ne_t (by decide)) (by decide) (by decide) k) ?_
  show Fin _ _ _ _ _ _ _ _ T11 (mkF m 28 #[vr a, vr d, vi (Int32.ofNat xs.length), vi (1 : Int32)] [])
  refine .go (fun _ k => XS.aloadN X11.here hx rfl (hb hby d26_28) rfl rfl k) ?_
  obtain ⟨T12, X12, e12, st12⟩ := getF X11 hx hZ hown (host := "") (Or.inl (hw _ w_23)) Via.refl e11 F2 (g := (mkF m 29 #[vr a, vr d, vi (Int32.ofNat xs.length), vi (1 : Int32)] [(.ref a)])) rfl rfl (hb hby d26_29)
  refine Fin.go st12 ?_
  show Fin _ _ _ _ _ _ _ _ T12 (mkF m 32 #[vr a, vr d, vi (Int32.ofNat xs.length), vi (1 : Int32)] [(.ref q)])
  refine .go (fun _ k => XS.iconst X12.here hx rfl (hb hby d26_32) k) ?_
  refine .go (fun _ k => XS.aloadN X12.here hx rfl (hb hby d26_33) rfl rfl k) ?_
  refine .go (fun _ k => XS.iloadN X12.here hx rfl (hb hby d26_34) rfl k) ?_
  refine .go (fun _ k => XS.aloadN X12.here hx rfl (hb hby d26_35) rfl rfl k) ?_
  show Fin _ _ _ _ _ _ _ _ T12 (mkF m 36 #[vr a, vr d, vi (Int32.ofNat xs.length), vi (1 : Int32)] [(.ref a), (.int (Int32.ofNat xs.length)), (.ref d), (.int (0 : Int32)), (.ref q)])
  obtain ⟨T13, X13, e13, st13⟩ := getF X12 hx hZ hown (host := "") (Or.inl (hw _ w_23)) Via.refl e12 F2 (g := (mkF m 36 #[vr a, vr d, vi (Int32.ofNat xs.length), vi (1 : Int32)] [(.ref a), (.int (Int32.ofNat xs.length)), (.ref d), (.int (0 : Int32)), (.ref q)])) rfl rfl (hb hby d26_36)
  refine Fin.go st13 ?_
  show Fin _ _ _ _ _ _ _ _ T13 (mkF m 39 #[vr a, vr d, vi (Int32.ofNat xs.length), vi (1 : Int32)] [(.ref q), (.int (Int32.ofNat xs.length)), (.ref d), (.int (0 : Int32)), (.ref q)])
  obtain ⟨cz14, B14, q14, S14, M14, H14, G14⟩ := id VQ
  refine Fin.go (fun _ k => X13.arraylength hx (by rw [e13]; exact B14.1) (State.isArrayOf_alike hZ.alike B14.2.1) (g := (mkF m 39 #[vr a, vr d, vi (Int32.ofNat xs.length), vi (1 : Int32)] [(.ref q), (.int (Int32.ofNat xs.length)), (.ref d), (.int (0 : Int32)), (.ref q)])) rfl rfl (hb hby d26_39) _ k) ?_
  rw [len_of S14 M14]
  show Fin _ _ _ _ _ _ _ _ T13 (mkF m 40 #[vr a, vr d, vi (Int32.ofNat xs.length), vi (1 : Int32)] [(.int (Int32.ofNat ys.length)), (.int (Int32.ofNat xs.length)), (.ref d), (.int (0 : Int32)), (.ref q)])
  obtain ⟨v15, T15, L15, X15, q15, st15⟩ := callSt X13 hx hZ hown (hw _ w_292) (hw _ w_273) (hw _ w_8) (hw _ w_274) (by decide) (W := 0) (rmInL l Z a0 hw n0 h0 O q d kq kd ys [] (u8 xs) xs.length N (2 * (N - xs.length - ys.length)) ys.length (u8_len _) (by omega) hN' (Nat.le_refl _) (by omega) hly hcy (by rw [List.append_nil]; exact VQ) (by rw [show 2 * ys.length + 2 * (N - xs.length - ys.length) = 2 * (N - xs.length) by omega]; exact VD) nd nqd S_as S_hb S_lb fm hfm S_fm) e13 (by decide) (by decide) (by decide) (by decide) (g := (mkF m 40 #[vr a, vr d, vi (Int32.ofNat xs.length), vi (1 : Int32)] [(.int (Int32.ofNat ys.length)), (.int (Int32.ofNat xs.length)), (.ref d), (.int (0 : Int32)), (.ref q)])) rfl (by rw [hml]; rfl) (argsL := [(.ref q), (.int (0 : Int32)), (.ref d), (.int (Int32.ofNat xs.length)), (.int (Int32.ofNat ys.length))]) (rest := []) (lenOf pd_oABIABIIcV rfl) rfl (wk rfl rfl) (hb hby d26_40)
  obtain ⟨rfl, Nq15, Kq15, V15⟩ := q15
  have N15 := Fr.app N11 Nq15
  have O15 := O.keep Kq15 (allS nd all0)
  have K15 := K0.trans Kq15 (allS (Or.inl (List.mem_of_getElem? (i := 0) rfl)) all0)
  refine Fin.go st15 ?_
  show Fin _ _ _ _ _ _ _ _ T15 (mkF m 43 #[vr a, vr d, vi (Int32.ofNat xs.length), vi (1 : Int32)] [])
  exact Fin.leaveN X15 (rfl : T15.heap = T15.heap) hlk (v := none) (fun _ => rfl) (by decide) (by decide) ⟨rfl, N15, K15, (by unfold bb1; rw [u8_app, List.length_append, ← Nat.sub_sub]; exact V15)⟩ (fun fs hr => X15.returnOut hx hret (hb hby d26_43) hr)
theorem rmPS00 (l : Launch) (Z : State) (a0 : Array Value) (hw : HW a0 Z) (n0 : Nat) (h0 : Heap) (O : Old Z n0 h0) (b d a q : Addr) (kd kq : ClassId) (xs ys : List Int32) (N : Nat) (hN : xs.length + ys.length ≤ N) (hN' : N ≤ 64) (hlx : Lat xs) (hly : Lat ys) (hcx : ∀ k, k < xs.length → ChI (xs.getD k 0)) (hcy : ∀ k, k < ys.length → ChI (ys.getD k 0)) (B : Exa Z h0 b "java/lang/StringBuilder") (G1 : Fld Z h0 b "java/lang/AbstractStringBuilder" "value" "[B" (.ref d)) (G2 : Fld Z h0 b "java/lang/AbstractStringBuilder" "coder" "B" (.int (0 : Int32))) (G3 : Fld Z h0 b "java/lang/AbstractStringBuilder" "count" "I" (.int (Int32.ofNat xs.length))) (G4 : Fld Z h0 b "java/lang/AbstractStringBuilder" "maybeLatin1" "Z" (.int (0 : Int32))) (VD : Arv Z h0 d kd .byte (Int32.ofNat N) (ivL (bb0 xs N)) (.int (0 : Int32))) (A : Exa Z h0 a "java/lang/String") (F1 : Fld Z h0 a "java/lang/String" "coder" "B" (.int (0 : Int32))) (F2 : Fld Z h0 a "java/lang/String" "value" "[B" (.ref q)) (VQ : Arv Z h0 q kq .byte (Int32.ofNat ys.length) (ivL (ys.map b8f)) (.int (0 : Int32))) (nb : n0 ≤ b) (nd : n0 ≤ d) (ndb : d ≠ b) (nab : a ≠ b) (nqb : q ≠ b) (nqd : q ≠ d) (cs : Int32) (S_cs : Sta Z Z.heap "java/lang/String" "COMPACT_STRINGS" "Z" (.int cs)) (hcs : ¬ cs = 0) (S_as : SAs Z) (S_hb : SHb Z) (S_lb : SLb Z) (fm : Value) (hfm : fm.isRef = true) (S_fm : SFm Z fm) :
    ConW FrameEnd l Z [] (⟨"java/lang/AbstractStringBuilder", "putStringAt", "(ILjava/lang/String;)V"⟩ : MethodName) jdk_68_method_73_code 3 none ({ frames := 2, cells := 0, slots := 0, locals := 75 } : Room) #[(.ref b), (.int (Int32.ofNat xs.length)), (.ref a)] h0 (fun v h L => v = none ∧ Fr n0 L ∧ Keep h0 h [d] ∧ Arv Z h d kd .byte (Int32.ofNat N) (ivL (bb0 (xs ++ ys) N)) (.int (0 : Int32))) := by
  refine conOf (plainFor_of_name pn_java_lang_AbstractStringBuilder) ?_
  intro p e s m below mth cc s₁ X0 hx hby hml hown hnm hret hlk hZ e0
  have N0 := Fr.nil n0
  have K0 := Keep.refl h0 ([d] : List Addr)
  refine Fin.came (castTop (t := _) (by first | (simp [entryFrame, mkF, argsToLocals, Value.category]; done) | rfl) (Steps.refl _) : Steps p.tables e below (s₁.setTop (entryFrame m #[(.ref b), (.int (Int32.ofNat xs.length)), (.ref a)] 3)) (s₁.setTop (mkF m 0 #[vr b, vi (Int32.ofNat xs.length), vr a] []))) ?_
  refine .go (fun _ k => XS.aloadN X0.here hx rfl (hb hby d24_0) rfl rfl k) ?_
  refine .go (fun _ k => XS.aloadN X0.here hx rfl (hb hby d24_1) rfl rfl k) ?_
  obtain ⟨v11, T11, L11, X11, q11, st11⟩ := callVt X0 hx hZ (y := (⟨"java/lang/AbstractStringBuilder", "inflateIfNeededFor", "(Ljava/lang/String;)V"⟩ : MethodName)) hown (hw _ w_131) (declOf (hw _ w_132) (hw _ w_135)) (hw _ w_134) (hw _ w_132) (hw _ w_64) (hw _ w_135) (by decide) (W := 0) (rmIN00 l Z a0 hw n0 h0 O b a B G2 A F1 cs S_cs hcs) e0 B (by decide) (by decide) (by decide) (by decide) (g := (mkF m 2 #[vr b, vi (Int32.ofNat xs.length), vr a] [(.ref a), (.ref b)])) rfl (by rw [hml]; rfl) (argsL := [(.ref a)]) (rest := []) (lenOf pd_oLjava_lang_String_cV rfl) rfl (wk rfl rfl) (hb hby d24_2)
  obtain ⟨rfl, e11, rfl⟩ := q11
  have N11 := Fr.app N0 (Fr.nil n0)
  refine Fin.go st11 ?_
  show Fin _ _ _ _ _ _ _ _ T11 (mkF m 5 #[vr b, vi (Int32.ofNat xs.length), vr a] [])
  refine .go (fun _ k => XS.aloadN X11.here hx rfl (hb hby d24_5) rfl rfl k) ?_
  refine .go (fun _ k => XS.aloadN X11.here hx rfl (hb hby d24_6) rfl rfl k) ?_
  obtain ⟨T12, X12, e12, st12⟩ := getF X11 hx hZ hown (host := "") (Or.inl (hw _ w_68)) Via.refl e11 G1 (g := (mkF m 7 #[vr b, vi (Int32.ofNat xs.length), vr a] [(.ref b), (.ref a)])) rfl rfl (hb hby d24_7)
  refine Fin.go st12 ?_
  show Fin _ _ _ _ _ _ _ _ T12 (mkF m 10 #[vr b, vi (Int32.ofNat xs.length), vr a] [(.ref d), (.ref a)])
  refine .go (fun _ k => XS.iloadN X12.here hx rfl (hb hby d24_10) rfl k) ?_
  refine .go (fun _ k => XS.aloadN X12.here hx rfl (hb hby d24_11) rfl rfl k) ?_
  obtain ⟨T13, X13, e13, st13⟩ := getF X12 hx hZ hown (host := "") (Or.inl (hw _ w_70)) Via.refl e12 G2 (g := (mkF m 12 #[vr b, vi (Int32.ofNat xs.length), vr a] [(.ref b), (.int (Int32.ofNat xs.length)), (.ref d), (.ref a)])) rfl rfl (hb hby d24_12)
  refine Fin.go st13 ?_
  show Fin _ _ _ _ _ _ _ _ T13 (mkF m 15 #[vr b, vi (Int32.ofNat xs.length), vr a] [(.int (0 : Int32)), (.int (Int32.ofNat xs.length)), (.ref d), (.ref a)])
  obtain ⟨v14, T14, L14, X14, q14, st14⟩ := callVt X13 hx hZ (y := (⟨"java/lang/String", "getBytes", "([BIB)V"⟩ : MethodName)) hown (hw _ w_137) (hw _ w_138) (hw _ w_140) (hw _ w_139) (hw _ w_3) (hw _ w_141) (by decide) (W := 0) (rmGB00 l Z a0 hw n0 h0 O a d q kd kq xs ys N hN hN' A F1 F2 VQ VD nd nqd cs S_cs hcs) e13 A (by decide) (by decide) (by decide) (by decide) (g := (mkF m 15 #[vr b, vi (Int32.ofNat xs.length), vr a] [(.int (0 : Int32)), (.int (Int32.ofNat xs.length)), (.ref d), (.ref a)])) rfl (by rw [hml]; rfl) (argsL := [(.ref d), (.int (Int32.ofNat xs.length)), (.int (0 : Int32))]) (rest := []) (lenOf pd_oABIBcV rfl) rfl (wk rfl rfl) (hb hby d24_15)
  obtain ⟨rfl, Nq14, Kq14, V14⟩ := q14
  have N14 := Fr.app N11 Nq14
  have O14 := O.keep Kq14 (allS nd all0)
  have K14 := K0.trans Kq14 (allS (Or.inl (List.mem_of_getElem? (i := 0) rfl)) all0)
  refine Fin.go st14 ?_
  show Fin _ _ _ _ _ _ _ _ T14 (mkF m 18 #[vr b, vi (Int32.ofNat xs.length), vr a] [])
  exact Fin.leaveN X14 (rfl : T14.heap = T14.heap) hlk (v := none) (fun _ => rfl) (by decide) (by decide) ⟨rfl, N14, K14, V14⟩ (fun fs hr => X14.returnOut hx hret (hb hby d24_18) hr)
theorem rmPS01 (l : Launch) (Z : State) (a0 : Array Value) (hw : HW a0 Z) (n0 : Nat) (h0 : Heap) (O : Old Z n0 h0) (b d a q : Addr) (kd kq : ClassId) (xs ys : List Int32) (N : Nat) (hN : xs.length + ys.length ≤ N) (hN' : N ≤ 64) (hlx : Lat xs) (hly : ¬ Lat ys) (hcx : ∀ k, k < xs.length → ChI (xs.getD k 0)) (hcy : ∀ k, k < ys.length → ChI (ys.getD k 0)) (B : Exa Z h0 b "java/lang/StringBuilder") (G1 : Fld Z h0 b "java/lang/AbstractStringBuilder" "value" "[B" (.ref d)) (G2 : Fld Z h0 b "java/lang/AbstractStringBuilder" "coder" "B" (.int (0 : Int32))) (G3 : Fld Z h0 b "java/lang/AbstractStringBuilder" "count" "I" (.int (Int32.ofNat xs.length))) (G4 : Fld Z h0 b "java/lang/AbstractStringBuilder" "maybeLatin1" "Z" (.int (0 : Int32))) (VD : Arv Z h0 d kd .byte (Int32.ofNat N) (ivL (bb0 xs N)) (.int (0 : Int32))) (A : Exa Z h0 a "java/lang/String") (F1 : Fld Z h0 a "java/lang/String" "coder" "B" (.int (1 : Int32))) (F2 : Fld Z h0 a "java/lang/String" "value" "[B" (.ref q)) (VQ : Arv Z h0 q kq .byte (Int32.ofNat (2 * ys.length)) (ivL (u8 ys)) (.int (0 : Int32))) (nb : n0 ≤ b) (nd : n0 ≤ d) (ndb : d ≠ b) (nab : a ≠ b) (nqb : q ≠ b) (nqd : q ≠ d) (cs : Int32) (S_cs : Sta Z Z.heap "java/lang/String" "COMPACT_STRINGS" "Z" (.int cs)) (hcs : ¬ cs = 0) (S_as : SAs Z) (S_hb : SHb Z) (S_lb : SLb Z) (fm : Value) (hfm : fm.isRef = true) (S_fm : SFm Z fm) :
    ConW FrameEnd l Z [] (⟨"java/lang/AbstractStringBuilder", "putStringAt", "(ILjava/lang/String;)V"⟩ : MethodName) jdk_68_method_73_code 3 none ({ frames := 7, cells := 1, slots := 128, locals := 102 } : Room) #[(.ref b), (.int (Int32.ofNat xs.length)), (.ref a)] h0 (fun v h L => v = none ∧ Fr n0 L ∧ Keep h0 h [b] ∧ ∃ dn kn, Exa Z h b "java/lang/StringBuilder" ∧ Fld Z h b "java/lang/AbstractStringBuilder" "value" "[B" (.ref dn) ∧ Fld Z h b "java/lang/AbstractStringBuilder" "coder" "B" (.int (1 : Int32)) ∧ Fld Z h b "java/lang/AbstractStringBuilder" "count" "I" (.int (Int32.ofNat xs.length)) ∧ Fld Z h b "java/lang/AbstractStringBuilder" "maybeLatin1" "Z" (.int (0 : Int32)) ∧ Arv Z h dn kn .byte (Int32.ofNat (2 * N)) (ivL (bb1 (xs ++ ys) N)) (.int (0 : Int32)) ∧ h0.size ≤ dn) := by
  refine conOf (plainFor_of_name pn_java_lang_AbstractStringBuilder) ?_
  intro p e s m below mth cc s₁ X0 hx hby hml hown hnm hret hlk hZ e0
  have N0 := Fr.nil n0
  have K0 := Keep.refl h0 ([b] : List Addr)
  refine Fin.came (castTop (t := _) (by first | (simp [entryFrame, mkF, argsToLocals, Value.category]; done) | rfl) (Steps.refl _) : Steps p.tables e below (s₁.setTop (entryFrame m #[(.ref b), (.int (Int32.ofNat xs.length)), (.ref a)] 3)) (s₁.setTop (mkF m 0 #[vr b, vi (Int32.ofNat xs.length), vr a] []))) ?_
  refine .go (fun _ k => XS.aloadN X0.here hx rfl (hb hby d24_0) rfl rfl k) ?_
  refine .go (fun _ k => XS.aloadN X0.here hx rfl (hb hby d24_1) rfl rfl k) ?_
  obtain ⟨v11, T11, L11, X11, q11, st11⟩ := callVt X0 hx hZ (y := (⟨"java/lang/AbstractStringBuilder", "inflateIfNeededFor", "(Ljava/lang/String;)V"⟩ : MethodName)) hown (hw _ w_131) (declOf (hw _ w_132) (hw _ w_135)) (hw _ w_134) (hw _ w_132) (hw _ w_64) (hw _ w_135) (by decide) (W := 0) (rmIN01 l Z a0 hw n0 h0 O b d kd xs N (by omega) hN' hlx hcx B G1 G2 G3 G4 VD nb ndb cs S_cs hcs S_as S_hb S_lb fm hfm S_fm a A F1) e0 B (by decide) (by decide) (by decide) (by decide) (g := (mkF m 2 #[vr b, vi (Int32.ofNat xs.length), vr a] [(.ref a), (.ref b)])) rfl (by rw [hml]; rfl) (argsL := [(.ref a)]) (rest := []) (lenOf pd_oLjava_lang_String_cV rfl) rfl (wk rfl rfl) (hb hby d24_2)
  obtain ⟨rfl, Nq11, Kq11, d11, kd11, B11, G111, G211, G311, G411, V11, zd11⟩ := q11
  have N11 := Fr.app N0 Nq11
  have O11 := O.keep Kq11 (allS nb all0)
  have K11 := K0.trans Kq11 (allS (Or.inl (List.mem_of_getElem? (i := 0) rfl)) all0)
  refine Fin.go st11 ?_
  show Fin _ _ _ _ _ _ _ _ T11 (mkF m 5 #[vr b, vi (Int32.ofNat xs.length), vr a] [])
  have nzd11 : n0 ≤ d11 := Nat.le_trans (by have := O.1; have := O.2.1; omega) zd11
  have hzd11 : h0.size ≤ d11 := Nat.le_trans K0.1 zd11
  refine .go (fun _ k => XS.aloadN X11.here hx rfl (hb hby d24_5) rfl rfl k) ?_
  refine .go (fun _ k => XS.aloadN X11.here hx rfl (hb hby d24_6) rfl rfl k) ?_
  obtain ⟨T12, X12, e12, st12⟩ := getF X11 hx hZ hown (host := "") (Or.inl (hw _ w_68)) Via.refl (rfl : T11.heap = T11.heap) G111 (g := (mkF m 7 #[vr b, vi (Int32.ofNat xs.length), vr a] [(.ref b), (.ref a)])) rfl rfl (hb hby d24_7)
  refine Fin.go st12 ?_
  show Fin _ _ _ _ _ _ _ _ T12 (mkF m 10 #[vr b, vi (Int32.ofNat xs.length), vr a] [(.ref d11), (.ref a)])
  refine .go (fun _ k => XS.iloadN X12.here hx rfl (hb hby d24_10) rfl k) ?_
  refine .go (fun _ k => XS.aloadN X12.here hx rfl (hb hby d24_11) rfl rfl k) ?_
  obtain ⟨T13, X13, e13, st13⟩ := getF X12 hx hZ hown (host := "") (Or.inl (hw _ w_70)) Via.refl e12 G211 (g := (mkF m 12 #[vr b, vi (Int32.ofNat xs.length), vr a] [(.ref b), (.int (Int32.ofNat xs.length)), (.ref d11), (.ref a)])) rfl rfl (hb hby d24_12)
  refine Fin.go st13 ?_
  show Fin _ _ _ _ _ _ _ _ T13 (mkF m 15 #[vr b, vi (Int32.ofNat xs.length), vr a] [(.int (1 : Int32)), (.int (Int32.ofNat xs.length)), (.ref d11), (.ref a)])
  obtain ⟨v14, T14, L14, X14, q14, st14⟩ := callVt X13 hx hZ (y := (⟨"java/lang/String", "getBytes", "([BIB)V"⟩ : MethodName)) hown (hw _ w_137) (hw _ w_138) (hw _ w_140) (hw _ w_139) (hw _ w_3) (hw _ w_141) (by decide) (W := 0) (rmGB11 l Z a0 hw n0 T11.heap O11 a d11 q kd11 kq xs ys N hN hN' (A.keep Kq11) (F1.keep Kq11 (ninS nab nin0)) (F2.keep Kq11 (ninS nab nin0)) (VQ.keep Kq11 (ninS nqb nin0)) V11 nzd11 (Nat.ne_of_lt (Nat.lt_of_lt_of_le VQ.lt zd11)) cs S_cs hcs) e13 (A.keep Kq11) (by decide) (by decide) (by decide) (by decide) (g := (mkF m 15 #[vr b, vi (Int32.ofNat xs.length), vr a] [(.int (1 : Int32)), (.int (Int32.ofNat xs.length)), (.ref d11), (.ref a)])) rfl (by rw [hml]; rfl) (argsL := [(.ref d11), (.int (Int32.ofNat xs.length)), (.int (1 : Int32))]) (rest := []) (lenOf pd_oABIBcV rfl) rfl (wk rfl rfl) (hb hby d24_15)
  obtain ⟨rfl, Nq14, Kq14, V14⟩ := q14
  have N14 := Fr.app N11 Nq14
  have O14 := O11.keep Kq14 (allS nzd11 all0)
  have K14 := K11.trans Kq14 (allS (Or.inr hzd11) all0)
  refine Fin.go st14 ?_
  have F14_a_coder := ((F1.keep Kq11 (ninS nab nin0)).keep Kq14 (ninS (Nat.ne_of_lt (Nat.lt_of_lt_of_le F2.lt zd11)) nin0))
  have F14_a_value := ((F2.keep Kq11 (ninS nab nin0)).keep Kq14 (ninS (Nat.ne_of_lt (Nat.lt_of_lt_of_le F2.lt zd11)) nin0))
  have V14_q := ((VQ.keep Kq11 (ninS nqb nin0)).keep Kq14 (ninS (Nat.ne_of_lt (Nat.lt_of_lt_of_le VQ.lt zd11)) nin0))
  have V14_d := ((VD.keep Kq11 (ninS ndb nin0)).keep Kq14 (ninS (Nat.ne_of_lt (Nat.lt_of_lt_of_le VD.lt zd11)) nin0))
  have F14_b_value := (G111.keep Kq14 (ninS (Nat.ne_of_lt (Nat.lt_of_lt_of_le G4.lt zd11)) nin0))
  have F14_b_coder := (G211.keep Kq14 (ninS (Nat.ne_of_lt (Nat.lt_of_lt_of_le G4.lt zd11)) nin0))
  have F14_b_count := (G311.keep Kq14 (ninS (Nat.ne_of_lt (Nat.lt_of_lt_of_le G4.lt zd11)) nin0))
  have F14_b_maybeLatin1 := (G411.keep Kq14 (ninS (Nat.ne_of_lt (Nat.lt_of_lt_of_le G4.lt zd11)) nin0))
  show Fin _ _ _ _ _ _ _ _ T14 (mkF m 18 #[vr b, vi (Int32.ofNat xs.length), vr a] [])
  exact Fin.leaveN X14 (rfl : T14.heap = T14.heap) hlk (v := none) (fun _ => rfl) (by decide) (by decide) ⟨rfl, N14, K14, d11, kd11, (B11.keep Kq14), F14_b_value, F14_b_coder, F14_b_count, F14_b_maybeLatin1, V14, hzd11⟩ (fun fs hr => X14.returnOut hx hret (hb hby d24_18) hr)
theorem rmPS10 (l : Launch) (Z : State) (a0 : Array Value) (hw : HW a0 Z) (n0 : Nat) (h0 : Heap) (O : Old Z n0 h0) (b d a q : Addr) (kd kq : ClassId) (xs ys : List Int32) (N : Nat) (hN : xs.length + ys.length ≤ N) (hN' : N ≤ 64) (hlx : ¬ Lat xs) (hly : Lat ys) (hcx : ∀ k, k < xs.length → ChI (xs.getD k 0)) (hcy : ∀ k, k < ys.length → ChI (ys.getD k 0)) (B : Exa Z h0 b "java/lang/StringBuilder") (G1 : Fld Z h0 b "java/lang/AbstractStringBuilder" "value" "[B" (.ref d)) (G2 : Fld Z h0 b "java/lang/AbstractStringBuilder" "coder" "B" (.int (1 : Int32))) (G3 : Fld Z h0 b "java/lang/AbstractStringBuilder" "count" "I" (.int (Int32.ofNat xs.length))) (G4 : Fld Z h0 b "java/lang/AbstractStringBuilder" "maybeLatin1" "Z" (.int (0 : Int32))) (VD : Arv Z h0 d kd .byte (Int32.ofNat (2 * N)) (ivL (bb1 xs N)) (.int (0 : Int32))) (A : Exa Z h0 a "java/lang/String") (F1 : Fld Z h0 a "java/lang/String" "coder" "B" (.int (0 : Int32))) (F2 : Fld Z h0 a "java/lang/String" "value" "[B" (.ref q)) (VQ : Arv Z h0 q kq .byte (Int32.ofNat ys.length) (ivL (ys.map b8f)) (.int (0 : Int32))) (nb : n0 ≤ b) (nd : n0 ≤ d) (ndb : d ≠ b) (nab : a ≠ b) (nqb : q ≠ b) (nqd : q ≠ d) (cs : Int32) (S_cs : Sta Z Z.heap "java/lang/String" "COMPACT_STRINGS" "Z" (.int cs)) (hcs : ¬ cs = 0) (S_as : SAs Z) (S_hb : SHb Z) (S_lb : SLb Z) (fm : Value) (hfm : fm.isRef = true) (S_fm : SFm Z fm) :
    ConW FrameEnd l Z [] (⟨"java/lang/AbstractStringBuilder", "putStringAt", "(ILjava/lang/String;)V"⟩ : MethodName) jdk_68_method_73_code 3 none ({ frames := 6, cells := 0, slots := 0, locals := 91 } : Room) #[(.ref b), (.int (Int32.ofNat xs.length)), (.ref a)] h0 (fun v h L => v = none ∧ Fr n0 L ∧ Keep h0 h [d] ∧ Arv Z h d kd .byte (Int32.ofNat (2 * N)) (ivL (bb1 (xs ++ ys) N)) (.int (0 : Int32))) := by
  refine conOf (plainFor_of_name pn_java_lang_AbstractStringBuilder) ?_
  intro p e s m below mth cc s₁ X0 hx hby hml hown hnm hret hlk hZ e0
  have N0 := Fr.nil n0
  have K0 := Keep.refl h0 ([d] : List Addr)
  refine Fin.came (castTop (t := _) (by first | (simp [entryFrame, mkF, argsToLocals, Value.category]; done) | rfl) (Steps.refl _) : Steps p.tables e below (s₁.setTop (entryFrame m #[(.ref b), (.int (Int32.ofNat xs.length)), (.ref a)] 3)) (s₁.setTop (mkF m 0 #[vr b, vi (Int32.ofNat xs.length), vr a] []))) ?_
  refine .go (fun _ k => XS.aloadN X0.here hx rfl (hb hby d24_0) rfl rfl k) ?_
  refine .go (fun _ k => XS.aloadN X0.here hx rfl (hb hby d24_1) rfl rfl k) ?_
  obtain ⟨v11, T11, L11, X11, q11, st11⟩ := callVt X0 hx hZ (y := (⟨"java/lang/AbstractStringBuilder", "inflateIfNeededFor", "(Ljava/lang/String;)V"⟩ : MethodName)) hown (hw _ w_131) (declOf (hw _ w_132) (hw _ w_135)) (hw _ w_134) (hw _ w_132) (hw _ w_64) (hw _ w_135) (by decide) (W := 0) (rmIN10 l Z a0 hw n0 h0 O b a B G2 A F1 cs S_cs hcs) e0 B (by decide) (by decide) (by decide) (by decide) (g := (mkF m 2 #[vr b, vi (Int32.ofNat xs.length), vr a] [(.ref a), (.ref b)])) rfl (by rw [hml]; rfl) (argsL := [(.ref a)]) (rest := []) (lenOf pd_oLjava_lang_String_cV rfl) rfl (wk rfl rfl) (hb hby d24_2)
  obtain ⟨rfl, e11, rfl⟩ := q11
  have N11 := Fr.app N0 (Fr.nil n0)
  refine Fin.go st11 ?_
  show Fin _ _ _ _ _ _ _ _ T11 (mkF m 5 #[vr b, vi (Int32.ofNat xs.length), vr a] [])
  refine .go (fun _ k => XS.aloadN X11.here hx rfl (hb hby d24_5) rfl rfl k) ?_
  refine .go (fun _ k => XS.aloadN X11.here hx rfl (hb hby d24_6) rfl rfl k) ?_
  obtain ⟨T12, X12, e12, st12⟩ := getF X11 hx hZ hown (host := "") (Or.inl (hw _ w_68)) Via.refl e11 G1 (g := (mkF m 7 #[vr b, vi (Int32.ofNat xs.length), vr a] [(.ref b), (.ref a)])) rfl rfl (hb hby d24_7)
  refine Fin.go st12 ?_
  show Fin _ _ _ _ _ _ _ _ T12 (mkF m 10 #[vr b, vi (Int32.ofNat xs.length), vr a] [(.ref d), (.ref a)])
  refine .go (fun _ k => XS.iloadN X12.here hx rfl (hb hby d24_10) rfl k) ?_
  refine .go (fun _ k => XS.aloadN X12.here hx rfl (hb hby d24_11) rfl rfl k) ?_
  obtain ⟨T13, X13, e13, st13⟩ := getF X12 hx hZ hown (host := "") (Or.inl (hw _ w_70)) Via.refl e12 G2 (g := (mkF m 12 #[vr b, vi (Int32.ofNat xs.length), vr a] [(.ref b), (.int (Int32.ofNat xs.length)), (.ref d), (.ref a)])) rfl rfl (hb hby d24_12)
  refine Fin.go st13 ?_
  show Fin _ _ _ _ _ _ _ _ T13 (mkF m 15 #[vr b, vi (Int32.ofNat xs.length), vr a] [(.int (1 : Int32)), (.int (Int32.ofNat xs.length)), (.ref d), (.ref a)])
  obtain ⟨v14, T14, L14, X14, q14, st14⟩ := callVt X13 hx hZ (y := (⟨"java/lang/String", "getBytes", "([BIB)V"⟩ : MethodName)) hown (hw _ w_137) (hw _ w_138) (hw _ w_140) (hw _ w_139) (hw _ w_3) (hw _ w_141) (by decide) (W := 0) (rmGB01 l Z a0 hw n0 h0 O a d q kd kq xs ys N hN hN' A F1 F2 VQ VD nd nqd cs S_cs hcs hly hcy S_as S_hb S_lb fm hfm S_fm) e13 A (by decide) (by decide) (by decide) (by decide) (g := (mkF m 15 #[vr b, vi (Int32.ofNat xs.length), vr a] [(.int (1 : Int32)), (.int (Int32.ofNat xs.length)), (.ref d), (.ref a)])) rfl (by rw [hml]; rfl) (argsL := [(.ref d), (.int (Int32.ofNat xs.length)), (.int (1 : Int32))]) (rest := []) (lenOf pd_oABIBcV rfl) rfl (wk rfl rfl) (hb hby d24_15)
  obtain ⟨rfl, Nq14, Kq14, V14⟩ := q14
  have N14 := Fr.app N11 Nq14
  have O14 := O.keep Kq14 (allS nd all0)
  have K14 := K0.trans Kq14 (allS (Or.inl (List.mem_of_getElem? (i := 0) rfl)) all0)
  refine Fin.go st14 ?_
  show Fin _ _ _ _ _ _ _ _ T14 (mkF m 18 #[vr b, vi (Int32.ofNat xs.length), vr a] [])
  exact Fin.leaveN X14 (rfl : T14.heap = T14.heap) hlk (v := none) (fun _ => rfl) (by decide) (by decide) ⟨rfl, N14, K14, V14⟩ (fun fs hr => X14.returnOut hx hret (hb hby d24_18) hr)
theorem latN : Lat [] := fun k hk => absurd hk (Nat.not_lt_zero k)
theorem rmAA00 (l : Launch) (Z : State) (a0 : Array Value) (hw : HW a0 Z) (n0 : Nat) (h0 : Heap) (O : Old Z n0 h0) (b d a q : Addr) (kd kq : ClassId) (xs ys : List Int32) (N : Nat) (hN : xs.length + ys.length ≤ N) (hN' : N ≤ 64) (hlx : Lat xs) (hly : Lat ys) (hcx : ∀ k, k < xs.length → ChI (xs.getD k 0)) (hcy : ∀ k, k < ys.length → ChI (ys.getD k 0)) (B : Exa Z h0 b "java/lang/StringBuilder") (G1 : Fld Z h0 b "java/lang/AbstractStringBuilder" "value" "[B" (.ref d)) (G2 : Fld Z h0 b "java/lang/AbstractStringBuilder" "coder" "B" (.int (0 : Int32))) (G3 : Fld Z h0 b "java/lang/AbstractStringBuilder" "count" "I" (.int (Int32.ofNat xs.length))) (G4 : Fld Z h0 b "java/lang/AbstractStringBuilder" "maybeLatin1" "Z" (.int (0 : Int32))) (VD : Arv Z h0 d kd .byte (Int32.ofNat N) (ivL (bb0 xs N)) (.int (0 : Int32))) (A : Exa Z h0 a "java/lang/String") (F1 : Fld Z h0 a "java/lang/String" "coder" "B" (.int (0 : Int32))) (F2 : Fld Z h0 a "java/lang/String" "value" "[B" (.ref q)) (VQ : Arv Z h0 q kq .byte (Int32.ofNat ys.length) (ivL (ys.map b8f)) (.int (0 : Int32))) (nb : n0 ≤ b) (nd : n0 ≤ d) (ndb : d ≠ b) (nab : a ≠ b) (nqb : q ≠ b) (nqd : q ≠ d) (cs : Int32) (S_cs : Sta Z Z.heap "java/lang/String" "COMPACT_STRINGS" "Z" (.int cs)) (hcs : ¬ cs = 0) (S_as : SAs Z) (S_hb : SHb Z) (S_lb : SLb Z) (fm : Value) (hfm : fm.isRef = true) (S_fm : SFm Z fm) :
    ConW FrameEnd l Z [] (⟨"java/lang/AbstractStringBuilder", "append", "(Ljava/lang/String;)Ljava/lang/AbstractStringBuilder;"⟩ : MethodName) jdk_68_method_22_code 3 (some (.object "java/lang/AbstractStringBuilder")) ({ frames := 8, cells := 1, slots := 128, locals := 116 } : Room) #[(.ref b), (.ref a)] h0 (fun v h L => v = some (.ref b) ∧ Fr n0 L ∧ Keep h0 h [b, d] ∧ ∃ dn kn, (dn = d ∨ h0.size ≤ dn) ∧ SBx Z h b dn kn (xs ++ ys) N) := by
  refine conOf (plainFor_of_name pn_java_lang_AbstractStringBuilder) ?_
  intro p e s m below mth cc s₁ X0 hx hby hml hown hnm hret hlk hZ e0
  have N0 := Fr.nil n0
  have K0 := Keep.refl h0 ([b, d] : List Addr)
  refine Fin.came (castTop (t := _) (by first | (simp [entryFrame, mkF, argsToLocals, Value.category]; done) | rfl) (Steps.refl _) : Steps p.tables e below (s₁.setTop (entryFrame m #[(.ref b), (.ref a)] 3)) (s₁.setTop (mkF m 0 #[vr b, vr a, .unset] []))) ?_
  refine .go (fun _ k => XS.aloadN X0.here hx rfl (hb hby d15_0) rfl rfl k) ?_
  refine .go (fun _ k => XT.ifnonnullYes X0.here hx rfl (pc0 := 1) (pc' := 9) rfl (hb hby d15_1) rfl (by decide) (by decide) k) ?_
  refine .go (fun _ k => XS.aloadN X0.here hx rfl (hb hby d15_9) rfl rfl k) ?_
  obtain ⟨v11, T11, L11, X11, q11, st11⟩ := callVt X0 hx hZ (y := (⟨"java/lang/String", "length", "()I"⟩ : MethodName)) hown (hw _ w_83) (hw _ w_84) (hw _ w_86) (hw _ w_85) (hw _ w_3) (hw _ w_87) (by decide) (W := 0) (rmLen0 l Z a0 hw n0 h0 O a q kq ys (by omega) A F1 F2 VQ cs S_cs hcs) e0 A (by decide) (by decide) (by decide) (by decide) (g := (mkF m 10 #[vr b, vr a, .unset] [(.ref a)])) rfl (by rw [hml]; rfl) (argsL := []) (rest := []) (lenOf pd_ocI rfl) rfl (wk rfl rfl) (hb hby d15_10)
  obtain ⟨rfl, e11, rfl⟩ := q11
  have N11 := Fr.app N0 (Fr.nil n0)
  refine Fin.go st11 ?_
  show Fin _ _ _ _ _ _ _ _ T11 (mkF m 13 #[vr b, vr a, .unset] [(.int (Int32.ofNat ys.length))])
  refine .go (fun _ k => XS.istoreN X11.here hx rfl (hb hby d15_13) rfl (l' := #[vr b, vr a, vi (Int32.ofNat ys.length)]) rfl k) ?_
  refine .go (fun _ k => XS.aloadN X11.here hx rfl (hb hby d15_14) rfl rfl k) ?_
  refine .go (fun _ k => XS.aloadN X11.here hx rfl (hb hby d15_15) rfl rfl k) ?_
  obtain ⟨T12, X12, e12, st12⟩ := getF X11 hx hZ hown (host := "") (Or.inl (hw _ w_93)) Via.refl e11 G3 (g := (mkF m 16 #[vr b, vr a, vi (Int32.ofNat ys.length)] [(.ref b), (.ref b)])) rfl rfl (hb hby d15_16)
  refine Fin.go st12 ?_
  show Fin _ _ _ _ _ _ _ _ T12 (mkF m 19 #[vr b, vr a, vi (Int32.ofNat ys.length)] [(.int (Int32.ofNat xs.length)), (.ref b)])
  refine .go (fun _ k => XS.iloadN X12.here hx rfl (hb hby d15_19) rfl k) ?_
  refine .go (fun _ k => XS.iadd X12.here hx rfl (hb hby d15_20) rfl k) ?_
  show Fin _ _ _ _ _ _ _ _ T12 (mkF m 21 #[vr b, vr a, vi (Int32.ofNat ys.length)] [(.int ((Int32.ofNat xs.length) + (Int32.ofNat ys.length))), (.ref b)])
  show Fin _ _ _ _ _ _ _ _ T12 (mkF m 21 #[vr b, vr a, vi (Int32.ofNat ys.length)] [(.int ((Int32.ofNat xs.length) + (Int32.ofNat ys.length))), (.ref b)])
  rw [on_add]
  show Fin _ _ _ _ _ _ _ _ T12 (mkF m 21 #[vr b, vr a, vi (Int32.ofNat ys.length)] [(.int (Int32.ofNat (xs.length + ys.length))), (.ref b)])
  obtain ⟨v13, T13, L13, X13, q13, st13⟩ := callVt X12 hx hZ (y := (⟨"java/lang/AbstractStringBuilder", "ensureCapacityInternal", "(I)V"⟩ : MethodName)) hown (hw _ w_95) (declOf (hw _ w_96) (hw _ w_99)) (hw _ w_98) (hw _ w_96) (hw _ w_64) (hw _ w_99) (by decide) (W := 0) (rmEns0 l Z a0 hw n0 h0 O b d kd (bb0 xs N) N (xs.length + ys.length) hN hN' G1 G2 VD) e12 B (by decide) (by decide) (by decide) (by decide) (g := (mkF m 21 #[vr b, vr a, vi (Int32.ofNat ys.length)] [(.int (Int32.ofNat (xs.length + ys.length))), (.ref b)])) rfl (by rw [hml]; rfl) (argsL := [(.int (Int32.ofNat (xs.length + ys.length)))]) (rest := []) (lenOf pd_oIcV rfl) rfl (wk rfl rfl) (hb hby d15_21)
  obtain ⟨rfl, e13, rfl⟩ := q13
  have N13 := Fr.app N11 (Fr.nil n0)
  refine Fin.go st13 ?_
  show Fin _ _ _ _ _ _ _ _ T13 (mkF m 24 #[vr b, vr a, vi (Int32.ofNat ys.length)] [])
  refine .go (fun _ k => XS.aloadN X13.here hx rfl (hb hby d15_24) rfl rfl k) ?_
  refine .go (fun _ k => XS.aloadN X13.here hx rfl (hb hby d15_25) rfl rfl k) ?_
  obtain ⟨T14, X14, e14, st14⟩ := getF X13 hx hZ hown (host := "") (Or.inl (hw _ w_93)) Via.refl e13 G3 (g := (mkF m 26 #[vr b, vr a, vi (Int32.ofNat ys.length)] [(.ref b), (.ref b)])) rfl rfl (hb hby d15_26)
  refine Fin.go st14 ?_
  show Fin _ _ _ _ _ _ _ _ T14 (mkF m 29 #[vr b, vr a, vi (Int32.ofNat ys.length)] [(.int (Int32.ofNat xs.length)), (.ref b)])
  refine .go (fun _ k => XS.aloadN X14.here hx rfl (hb hby d15_29) rfl rfl k) ?_
  obtain ⟨v15, T15, L15, X15, q15, st15⟩ := callVt X14 hx hZ (y := (⟨"java/lang/AbstractStringBuilder", "putStringAt", "(ILjava/lang/String;)V"⟩ : MethodName)) hown (hw _ w_126) (declOf (hw _ w_127) (hw _ w_130)) (hw _ w_129) (hw _ w_127) (hw _ w_64) (hw _ w_130) (by decide) (W := 0) (rmPS00 l Z a0 hw n0 h0 O b d a q kd kq xs ys N hN hN' hlx hly hcx hcy B G1 G2 G3 G4 VD A F1 F2 VQ nb nd ndb nab nqb nqd cs S_cs hcs S_as S_hb S_lb fm hfm S_fm) e14 B (by decide) (by decide) (by decide) (by decide) (g := (mkF m 30 #[vr b, vr a, vi (Int32.ofNat ys.length)] [(.ref a), (.int (Int32.ofNat xs.length)), (.ref b)])) rfl (by rw [hml]; rfl) (argsL := [(.int (Int32.ofNat xs.length)), (.ref a)]) (rest := []) (lenOf pd_oILjava_lang_String_cV rfl) rfl (wk rfl rfl) (hb hby d15_30)
  obtain ⟨rfl, Nq15, Kq15, V15⟩ := q15
  have N15 := Fr.app N13 Nq15
  have O15 := O.keep Kq15 (allS nd all0)
  have K15 := K0.trans Kq15 (allS (Or.inl (List.mem_of_getElem? (i := 1) rfl)) all0)
  refine Fin.go st15 ?_
  show Fin _ _ _ _ _ _ _ _ T15 (mkF m 33 #[vr b, vr a, vi (Int32.ofNat ys.length)] [])
  refine .go (fun _ k => XS.aloadN X15.here hx rfl (hb hby d15_33) rfl rfl k) ?_
  refine .go (fun _ k => XS.dup X15.here hx rfl (hb hby d15_34) rfl rfl k) ?_
  obtain ⟨T16, X16, e16, st16⟩ := getF X15 hx hZ hown (host := "") (Or.inl (hw _ w_93)) Via.refl (rfl : T15.heap = T15.heap) (G3.keep Kq15 (ninS (Ne.symm ndb) nin0)) (g := (mkF m 35 #[vr b, vr a, vi (Int32.ofNat ys.length)] [(.ref b), (.ref b)])) rfl rfl (hb hby d15_35)
  refine Fin.go st16 ?_
  show Fin _ _ _ _ _ _ _ _ T16 (mkF m 38 #[vr b, vr a, vi (Int32.ofNat ys.length)] [(.int (Int32.ofNat xs.length)), (.ref b)])
  refine .go (fun _ k => XS.iloadN X16.here hx rfl (hb hby d15_38) rfl k) ?_
  refine .go (fun _ k => XS.iadd X16.here hx rfl (hb hby d15_39) rfl k) ?_
  show Fin _ _ _ _ _ _ _ _ T16 (mkF m 40 #[vr b, vr a, vi (Int32.ofNat ys.length)] [(.int ((Int32.ofNat xs.length) + (Int32.ofNat ys.length))), (.ref b)])
  show Fin _ _ _ _ _ _ _ _ T16 (mkF m 40 #[vr b, vr a, vi (Int32.ofNat ys.length)] [(.int ((Int32.ofNat xs.length) + (Int32.ofNat ys.length))), (.ref b)])
  rw [on_add, ← List.length_append]
  show Fin _ _ _ _ _ _ _ _ T16 (mkF m 40 #[vr b, vr a, vi (Int32.ofNat ys.length)] [(.int (Int32.ofNat (xs ++ ys).length)), (.ref b)])
  obtain ⟨T17, h17, X17, e17, W17, st17⟩ := putF X16 hx hZ hown (host := "") (Or.inl (hw _ w_93)) Via.refl e16 (G3.keep Kq15 (ninS (Ne.symm ndb) nin0)) (B.keep Kq15) (Or.inl (hw _ w_94)) (hw _ w_55) (ty := .int) (by decide) rfl rfl (g := (mkF m 40 #[vr b, vr a, vi (Int32.ofNat ys.length)] [(.int (Int32.ofNat (xs ++ ys).length)), (.ref b)])) rfl rfl (hb hby d15_40)
  refine Fin.go st17 ?_
  have N17 := Fr.snoc X17 N15 nb
  have O17 := O15.wr W17 nb
  have K17 := K15.wr W17 (Or.inl (List.mem_of_getElem? (i := 0) rfl))
  have F17_b_value := ((G1.keep Kq15 (ninS (Ne.symm ndb) nin0)).other W17 (Or.inr (slot_ne (Or.inl (hw _ w_69)) (Or.inl (hw _ w_94)) (by decide) (t := (.array .byte)) (t' := .int) (by decide) (by decide))))
  have F17_b_coder := ((G2.keep Kq15 (ninS (Ne.symm ndb) nin0)).other W17 (Or.inr (slot_ne (Or.inl (hw _ w_71)) (Or.inl (hw _ w_94)) (by decide) (t := .byte) (t' := .int) (by decide) (by decide))))
  have F17_b_maybeLatin1 := ((G4.keep Kq15 (ninS (Ne.symm ndb) nin0)).other W17 (Or.inr (slot_ne (Or.inl (hw _ w_294)) (Or.inl (hw _ w_94)) (by decide) (t := .boolean) (t' := .int) (by decide) (by decide))))
  show Fin _ _ _ _ _ _ _ _ T17 (mkF m 43 #[vr b, vr a, vi (Int32.ofNat ys.length)] [])
  refine .go (fun _ k => XS.aloadN X17.here hx rfl (hb hby d15_43) rfl rfl k) ?_
  exact Fin.leaveN X17 e17 hlk (v := some (.ref b)) (nvS hret) (by decide) (by decide) ⟨rfl, N17, K17, d, kd, Or.inl rfl, (0 : Int32), ((B.keep Kq15).wr W17), F17_b_value, F17_b_coder, ((G3.keep Kq15 (ninS (Ne.symm ndb) nin0)).same W17), F17_b_maybeLatin1, Or.inl ⟨rfl, lat_app.mpr ⟨hlx, hly⟩, (V15.other W17 ndb)⟩⟩ (fun fs hr => retOut X17 hx hret rfl (Or.inr (Or.inr (Or.inr (Or.inr ⟨rfl, rfl, rfl⟩)))) (hb hby d15_44) hr)
theorem rmAA01 (l : Launch) (Z : State) (a0 : Array Value) (hw : HW a0 Z) (n0 : Nat) (h0 : Heap) (O : Old Z n0 h0) (b d a q : Addr) (kd kq : ClassId) (xs ys : List Int32) (N : Nat) (hN : xs.length + ys.length ≤ N) (hN' : N ≤ 64) (hlx : Lat xs) (hly : ¬ Lat ys) (hcx : ∀ k, k < xs.length → ChI (xs.getD k 0)) (hcy : ∀ k, k < ys.length → ChI (ys.getD k 0)) (B : Exa Z h0 b "java/lang/StringBuilder") (G1 : Fld Z h0 b "java/lang/AbstractStringBuilder" "value" "[B" (.ref d)) (G2 : Fld Z h0 b "java/lang/AbstractStringBuilder" "coder" "B" (.int (0 : Int32))) (G3 : Fld Z h0 b "java/lang/AbstractStringBuilder" "count" "I" (.int (Int32.ofNat xs.length))) (G4 : Fld Z h0 b "java/lang/AbstractStringBuilder" "maybeLatin1" "Z" (.int (0 : Int32))) (VD : Arv Z h0 d kd .byte (Int32.ofNat N) (ivL (bb0 xs N)) (.int (0 : Int32))) (A : Exa Z h0 a "java/lang/String") (F1 : Fld Z h0 a "java/lang/String" "coder" "B" (.int (1 : Int32))) (F2 : Fld Z h0 a "java/lang/String" "value" "[B" (.ref q)) (VQ : Arv Z h0 q kq .byte (Int32.ofNat (2 * ys.length)) (ivL (u8 ys)) (.int (0 : Int32))) (nb : n0 ≤ b) (nd : n0 ≤ d) (ndb : d ≠ b) (nab : a ≠ b) (nqb : q ≠ b) (nqd : q ≠ d) (cs : Int32) (S_cs : Sta Z Z.heap "java/lang/String" "COMPACT_STRINGS" "Z" (.int cs)) (hcs : ¬ cs = 0) (S_as : SAs Z) (S_hb : SHb Z) (S_lb : SLb Z) (fm : Value) (hfm : fm.isRef = true) (S_fm : SFm Z fm) :
    ConW FrameEnd l Z [] (⟨"java/lang/AbstractStringBuilder", "append", "(Ljava/lang/String;)Ljava/lang/AbstractStringBuilder;"⟩ : MethodName) jdk_68_method_22_code 3 (some (.object "java/lang/AbstractStringBuilder")) ({ frames := 8, cells := 1, slots := 128, locals := 116 } : Room) #[(.ref b), (.ref a)] h0 (fun v h L => v = some (.ref b) ∧ Fr n0 L ∧ Keep h0 h [b, d] ∧ ∃ dn kn, (dn = d ∨ h0.size ≤ dn) ∧ SBx Z h b dn kn (xs ++ ys) N) := by
  refine conOf (plainFor_of_name pn_java_lang_AbstractStringBuilder) ?_
  intro p e s m below mth cc s₁ X0 hx hby hml hown hnm hret hlk hZ e0
  have N0 := Fr.nil n0
  have K0 := Keep.refl h0 ([b, d] : List Addr)
  refine Fin.came (castTop (t := _) (by first | (simp [entryFrame, mkF, argsToLocals, Value.category]; done) | rfl) (Steps.refl _) : Steps p.tables e below (s₁.setTop (entryFrame m #[(.ref b), (.ref a)] 3)) (s₁.setTop (mkF m 0 #[vr b, vr a, .unset] []))) ?_
  refine .go (fun _ k => XS.aloadN X0.here hx rfl (hb hby d15_0) rfl rfl k) ?_
  refine .go (fun _ k => XT.ifnonnullYes X0.here hx rfl (pc0 := 1) (pc' := 9) rfl (hb hby d15_1) rfl (by decide) (by decide) k) ?_
  refine .go (fun _ k => XS.aloadN X0.here hx rfl (hb hby d15_9) rfl rfl k) ?_
  obtain ⟨v11, T11, L11, X11, q11, st11⟩ := callVt X0 hx hZ (y := (⟨"java/lang/String", "length", "()I"⟩ : MethodName)) hown (hw _ w_83) (hw _ w_84) (hw _ w_86) (hw _ w_85) (hw _ w_3) (hw _ w_87) (by decide) (W := 0) (rmLen1 l Z a0 hw n0 h0 O a q kq ys (by omega) A F1 F2 VQ cs S_cs hcs) e0 A (by decide) (by decide) (by decide) (by decide) (g := (mkF m 10 #[vr b, vr a, .unset] [(.ref a)])) rfl (by rw [hml]; rfl) (argsL := []) (rest := []) (lenOf pd_ocI rfl) rfl (wk rfl rfl) (hb hby d15_10)
  obtain ⟨rfl, e11, rfl⟩ := q11
  have N11 := Fr.app N0 (Fr.nil n0)
  refine Fin.go st11 ?_
  show Fin _ _ _ _ _ _ _ _ T11 (mkF m 13 #[vr b, vr a, .unset] [(.int (Int32.ofNat ys.length))])
  refine .go (fun _ k => XS.istoreN X11.here hx rfl (hb hby d15_13) rfl (l' := #[vr b, vr a, vi (Int32.ofNat ys.length)]) rfl k) ?_
  refine .go (fun _ k => XS.aloadN X11.here hx rfl (hb hby d15_14) rfl rfl k) ?_
  refine .go (fun _ k => XS.aloadN X11.here hx rfl (hb hby d15_15) rfl rfl k) ?_
  obtain ⟨T12, X12, e12, st12⟩ := getF X11 hx hZ hown (host := "") (Or.inl (hw _ w_93)) Via.refl e11 G3 (g := (mkF m 16 #[vr b, vr a, vi (Int32.ofNat ys.length)] [(.ref b), (.ref b)])) rfl rfl (hb hby d15_16)
  refine Fin.go st12 ?_
  show Fin _ _ _ _ _ _ _ _ T12 (mkF m 19 #[vr b, vr a, vi (Int32.ofNat ys.length)] [(.int (Int32.ofNat xs.length)), (.ref b)])
  refine .go (fun _ k => XS.iloadN X12.here hx rfl (hb hby d15_19) rfl k) ?_
  refine .go (fun _ k => XS.iadd X12.here hx rfl (hb hby d15_20) rfl k) ?_
  show Fin _ _ _ _ _ _ _ _ T12 (mkF m 21 #[vr b, vr a, vi (Int32.ofNat ys.length)] [(.int ((Int32.ofNat xs.length) + (Int32.ofNat ys.length))), (.ref b)])
  show Fin _ _ _ _ _ _ _ _ T12 (mkF m 21 #[vr b, vr a, vi (Int32.ofNat ys.length)] [(.int ((Int32.ofNat xs.length) + (Int32.ofNat ys.length))), (.ref b)])
  rw [on_add]
  show Fin _ _ _ _ _ _ _ _ T12 (mkF m 21 #[vr b, vr a, vi (Int32.ofNat ys.length)] [(.int (Int32.ofNat (xs.length + ys.length))), (.ref b)])
  obtain ⟨v13, T13, L13, X13, q13, st13⟩ := callVt X12 hx hZ (y := (⟨"java/lang/AbstractStringBuilder", "ensureCapacityInternal", "(I)V"⟩ : MethodName)) hown (hw _ w_95) (declOf (hw _ w_96) (hw _ w_99)) (hw _ w_98) (hw _ w_96) (hw _ w_64) (hw _ w_99) (by decide) (W := 0) (rmEns0 l Z a0 hw n0 h0 O b d kd (bb0 xs N) N (xs.length + ys.length) hN hN' G1 G2 VD) e12 B (by decide) (by decide) (by decide) (by decide) (g := (mkF m 21 #[vr b, vr a, vi (Int32.ofNat ys.length)] [(.int (Int32.ofNat (xs.length + ys.length))), (.ref b)])) rfl (by rw [hml]; rfl) (argsL := [(.int (Int32.ofNat (xs.length + ys.length)))]) (rest := []) (lenOf pd_oIcV rfl) rfl (wk rfl rfl) (hb hby d15_21)
  obtain ⟨rfl, e13, rfl⟩ := q13
  have N13 := Fr.app N11 (Fr.nil n0)
  refine Fin.go st13 ?_
  show Fin _ _ _ _ _ _ _ _ T13 (mkF m 24 #[vr b, vr a, vi (Int32.ofNat ys.length)] [])
  refine .go (fun _ k => XS.aloadN X13.here hx rfl (hb hby d15_24) rfl rfl k) ?_
  refine .go (fun _ k => XS.aloadN X13.here hx rfl (hb hby d15_25) rfl rfl k) ?_
  obtain ⟨T14, X14, e14, st14⟩ := getF X13 hx hZ hown (host := "") (Or.inl (hw _ w_93)) Via.refl e13 G3 (g := (mkF m 26 #[vr b, vr a, vi (Int32.ofNat ys.length)] [(.ref b), (.ref b)])) rfl rfl (hb hby d15_26)
  refine Fin.go st14 ?_
  show Fin _ _ _ _ _ _ _ _ T14 (mkF m 29 #[vr b, vr a, vi (Int32.ofNat ys.length)] [(.int (Int32.ofNat xs.length)), (.ref b)])
  refine .go (fun _ k => XS.aloadN X14.here hx rfl (hb hby d15_29) rfl rfl k) ?_
  obtain ⟨v15, T15, L15, X15, q15, st15⟩ := callVt X14 hx hZ (y := (⟨"java/lang/AbstractStringBuilder", "putStringAt", "(ILjava/lang/String;)V"⟩ : MethodName)) hown (hw _ w_126) (declOf (hw _ w_127) (hw _ w_130)) (hw _ w_129) (hw _ w_127) (hw _ w_64) (hw _ w_130) (by decide) (W := 0) (rmPS01 l Z a0 hw n0 h0 O b d a q kd kq xs ys N hN hN' hlx hly hcx hcy B G1 G2 G3 G4 VD A F1 F2 VQ nb nd ndb nab nqb nqd cs S_cs hcs S_as S_hb S_lb fm hfm S_fm) e14 B (by decide) (by decide) (by decide) (by decide) (g := (mkF m 30 #[vr b, vr a, vi (Int32.ofNat ys.length)] [(.ref a), (.int (Int32.ofNat xs.length)), (.ref b)])) rfl (by rw [hml]; rfl) (argsL := [(.int (Int32.ofNat xs.length)), (.ref a)]) (rest := []) (lenOf pd_oILjava_lang_String_cV rfl) rfl (wk rfl rfl) (hb hby d15_30)
  obtain ⟨rfl, Nq15, Kq15, d15, kd15, B15, G115, G215, G315, G415, V15, zd15⟩ := q15
  have N15 := Fr.app N13 Nq15
  have O15 := O.keep Kq15 (allS nb all0)
  have K15 := K0.trans Kq15 (allS (Or.inl (List.mem_of_getElem? (i := 0) rfl)) all0)
  refine Fin.go st15 ?_
  show Fin _ _ _ _ _ _ _ _ T15 (mkF m 33 #[vr b, vr a, vi (Int32.ofNat ys.length)] [])
  have nzd15 : n0 ≤ d15 := Nat.le_trans (by have := O.1; have := O.2.1; omega) zd15
  have hzd15 : h0.size ≤ d15 := Nat.le_trans K0.1 zd15
  have bd15 : d15 ≠ b := Ne.symm (Nat.ne_of_lt (Nat.lt_of_lt_of_le B.lt zd15))
  refine .go (fun _ k => XS.aloadN X15.here hx rfl (hb hby d15_33) rfl rfl k) ?_
  refine .go (fun _ k => XS.dup X15.here hx rfl (hb hby d15_34) rfl rfl k) ?_
  obtain ⟨T16, X16, e16, st16⟩ := getF X15 hx hZ hown (host := "") (Or.inl (hw _ w_93)) Via.refl (rfl : T15.heap = T15.heap) G315 (g := (mkF m 35 #[vr b, vr a, vi (Int32.ofNat ys.length)] [(.ref b), (.ref b)])) rfl rfl (hb hby d15_35)
  refine Fin.go st16 ?_
  show Fin _ _ _ _ _ _ _ _ T16 (mkF m 38 #[vr b, vr a, vi (Int32.ofNat ys.length)] [(.int (Int32.ofNat xs.length)), (.ref b)])
  refine .go (fun _ k => XS.iloadN X16.here hx rfl (hb hby d15_38) rfl k) ?_
  refine .go (fun _ k => XS.iadd X16.here hx rfl (hb hby d15_39) rfl k) ?_
  show Fin _ _ _ _ _ _ _ _ T16 (mkF m 40 #[vr b, vr a, vi (Int32.ofNat ys.length)] [(.int ((Int32.ofNat xs.length) + (Int32.ofNat ys.length))), (.ref b)])
  show Fin _ _ _ _ _ _ _ _ T16 (mkF m 40 #[vr b, vr a, vi (Int32.ofNat ys.length)] [(.int ((Int32.ofNat xs.length) + (Int32.ofNat ys.length))), (.ref b)])
  rw [on_add, ← List.length_append]
  show Fin _ _ _ _ _ _ _ _ T16 (mkF m 40 #[vr b, vr a, vi (Int32.ofNat ys.length)] [(.int (Int32.ofNat (xs ++ ys).length)), (.ref b)])
  obtain ⟨T17, h17, X17, e17, W17, st17⟩ := putF X16 hx hZ hown (host := "") (Or.inl (hw _ w_93)) Via.refl e16 G315 B15 (Or.inl (hw _ w_94)) (hw _ w_55) (ty := .int) (by decide) rfl rfl (g := (mkF m 40 #[vr b, vr a, vi (Int32.ofNat ys.length)] [(.int (Int32.ofNat (xs ++ ys).length)), (.ref b)])) rfl rfl (hb hby d15_40)
  refine Fin.go st17 ?_
  have N17 := Fr.snoc X17 N15 nb
  have O17 := O15.wr W17 nb
  have K17 := K15.wr W17 (Or.inl (List.mem_of_getElem? (i := 0) rfl))
  have F17_b_value := (G115.other W17 (Or.inr (slot_ne (Or.inl (hw _ w_69)) (Or.inl (hw _ w_94)) (by decide) (t := (.array .byte)) (t' := .int) (by decide) (by decide))))
  have F17_b_coder := (G215.other W17 (Or.inr (slot_ne (Or.inl (hw _ w_71)) (Or.inl (hw _ w_94)) (by decide) (t := .byte) (t' := .int) (by decide) (by decide))))
  have F17_b_maybeLatin1 := (G415.other W17 (Or.inr (slot_ne (Or.inl (hw _ w_294)) (Or.inl (hw _ w_94)) (by decide) (t := .boolean) (t' := .int) (by decide) (by decide))))
  show Fin _ _ _ _ _ _ _ _ T17 (mkF m 43 #[vr b, vr a, vi (Int32.ofNat ys.length)] [])
  refine .go (fun _ k => XS.aloadN X17.here hx rfl (hb hby d15_43) rfl rfl k) ?_
  exact Fin.leaveN X17 e17 hlk (v := some (.ref b)) (nvS hret) (by decide) (by decide) ⟨rfl, N17, K17, d15, kd15, Or.inr hzd15, (1 : Int32), (B15.wr W17), F17_b_value, F17_b_coder, (G315.same W17), F17_b_maybeLatin1, Or.inr ⟨rfl, fun q => hly (lat_app.mp q).2, (V15.other W17 bd15)⟩⟩ (fun fs hr => retOut X17 hx hret rfl (Or.inr (Or.inr (Or.inr (Or.inr ⟨rfl, rfl, rfl⟩)))) (hb hby d15_44) hr)
theorem rmAA10 (l : Launch) (Z : State) (a0 : Array Value) (hw : HW a0 Z) (n0 : Nat) (h0 : Heap) (O : Old Z n0 h0) (b d a q : Addr) (kd kq : ClassId) (xs ys : List Int32) (N : Nat) (hN : xs.length + ys.length ≤ N) (hN' : N ≤ 64) (hlx : ¬ Lat xs) (hly : Lat ys) (hcx : ∀ k, k < xs.length → ChI (xs.getD k 0)) (hcy : ∀ k, k < ys.length → ChI (ys.getD k 0)) (B : Exa Z h0 b "java/lang/StringBuilder") (G1 : Fld Z h0 b "java/lang/AbstractStringBuilder" "value" "[B" (.ref d)) (G2 : Fld Z h0 b "java/lang/AbstractStringBuilder" "coder" "B" (.int (1 : Int32))) (G3 : Fld Z h0 b "java/lang/AbstractStringBuilder" "count" "I" (.int (Int32.ofNat xs.length))) (G4 : Fld Z h0 b "java/lang/AbstractStringBuilder" "maybeLatin1" "Z" (.int (0 : Int32))) (VD : Arv Z h0 d kd .byte (Int32.ofNat (2 * N)) (ivL (bb1 xs N)) (.int (0 : Int32))) (A : Exa Z h0 a "java/lang/String") (F1 : Fld Z h0 a "java/lang/String" "coder" "B" (.int (0 : Int32))) (F2 : Fld Z h0 a "java/lang/String" "value" "[B" (.ref q)) (VQ : Arv Z h0 q kq .byte (Int32.ofNat ys.length) (ivL (ys.map b8f)) (.int (0 : Int32))) (nb : n0 ≤ b) (nd : n0 ≤ d) (ndb : d ≠ b) (nab : a ≠ b) (nqb : q ≠ b) (nqd : q ≠ d) (cs : Int32) (S_cs : Sta Z Z.heap "java/lang/String" "COMPACT_STRINGS" "Z" (.int cs)) (hcs : ¬ cs = 0) (S_as : SAs Z) (S_hb : SHb Z) (S_lb : SLb Z) (fm : Value) (hfm : fm.isRef = true) (S_fm : SFm Z fm) :
    ConW FrameEnd l Z [] (⟨"java/lang/AbstractStringBuilder", "append", "(Ljava/lang/String;)Ljava/lang/AbstractStringBuilder;"⟩ : MethodName) jdk_68_method_22_code 3 (some (.object "java/lang/AbstractStringBuilder")) ({ frames := 8, cells := 1, slots := 128, locals := 116 } : Room) #[(.ref b), (.ref a)] h0 (fun v h L => v = some (.ref b) ∧ Fr n0 L ∧ Keep h0 h [b, d] ∧ ∃ dn kn, (dn = d ∨ h0.size ≤ dn) ∧ SBx Z h b dn kn (xs ++ ys) N) := by
  refine conOf (plainFor_of_name pn_java_lang_AbstractStringBuilder) ?_
  intro p e s m below mth cc s₁ X0 hx hby hml hown hnm hret hlk hZ e0
  have N0 := Fr.nil n0
  have K0 := Keep.refl h0 ([b, d] : List Addr)
  refine Fin.came (castTop (t := _) (by first | (simp [entryFrame, mkF, argsToLocals, Value.category]; done) | rfl) (Steps.refl _) : Steps p.tables e below (s₁.setTop (entryFrame m #[(.ref b), (.ref a)] 3)) (s₁.setTop (mkF m 0 #[vr b, vr a, .unset] []))) ?_
  refine .go (fun _ k => XS.aloadN X0.here hx rfl (hb hby d15_0) rfl rfl k) ?_
  refine .go (fun _ k => XT.ifnonnullYes X0.here hx rfl (pc0 := 1) (pc' := 9) rfl (hb hby d15_1) rfl (by decide) (by decide) k) ?_
  refine .go (fun _ k => XS.aloadN X0.here hx rfl (hb hby d15_9) rfl rfl k) ?_
  obtain ⟨v11, T11, L11, X11, q11, st11⟩ := callVt X0 hx hZ (y := (⟨"java/lang/String", "length", "()I"⟩ : MethodName)) hown (hw _ w_83) (hw _ w_84) (hw _ w_86) (hw _ w_85) (hw _ w_3) (hw _ w_87) (by decide) (W := 0) (rmLen0 l Z a0 hw n0 h0 O a q kq ys (by omega) A F1 F2 VQ cs S_cs hcs) e0 A (by decide) (by decide) (by decide) (by decide) (g := (mkF m 10 #[vr b, vr a, .unset] [(.ref a)])) rfl (by rw [hml]; rfl) (argsL := []) (rest := []) (lenOf pd_ocI rfl) rfl (wk rfl rfl) (hb hby d15_10)
  obtain ⟨rfl, e11, rfl⟩ := q11
  have N11 := Fr.app N0 (Fr.nil n0)
  refine Fin.go st11 ?_
  show Fin _ _ _ _ _ _ _ _ T11 (mkF m 13 #[vr b, vr a, .unset] [(.int (Int32.ofNat ys.length))])
  refine .go (fun _ k => XS.istoreN X11.here hx rfl (hb hby d15_13) rfl (l' := #[vr b, vr a, vi (Int32.ofNat ys.length)]) rfl k) ?_
  refine .go (fun _ k => XS.aloadN X11.here hx rfl (hb hby d15_14) rfl rfl k) ?_
  refine .go (fun _ k => XS.aloadN X11.here hx rfl (hb hby d15_15) rfl rfl k) ?_
  obtain ⟨T12, X12, e12, st12⟩ := getF X11 hx hZ hown (host := "") (Or.inl (hw _ w_93)) Via.refl e11 G3 (g := (mkF m 16 #[vr b, vr a, vi (Int32.ofNat ys.length)] [(.ref b), (.ref b)])) rfl rfl (hb hby d15_16)
  refine Fin.go st12 ?_
  show Fin _ _ _ _ _ _ _ _ T12 (mkF m 19 #[vr b, vr a, vi (Int32.ofNat ys.length)] [(.int (Int32.ofNat xs.length)), (.ref b)])
  refine .go (fun _ k => XS.iloadN X12.here hx rfl (hb hby d15_19) rfl k) ?_
  refine .go (fun _ k => XS.iadd X12.here hx rfl (hb hby d15_20) rfl k) ?_
  show Fin _ _ _ _ _ _ _ _ T12 (mkF m 21 #[vr b, vr a, vi (Int32.ofNat ys.length)] [(.int ((Int32.ofNat xs.length) + (Int32.ofNat ys.length))), (.ref b)])
  show Fin _ _ _ _ _ _ _ _ T12 (mkF m 21 #[vr b, vr a, vi (Int32.ofNat ys.length)] [(.int ((Int32.ofNat xs.length) + (Int32.ofNat ys.length))), (.ref b)])
  rw [on_add]
  show Fin _ _ _ _ _ _ _ _ T12 (mkF m 21 #[vr b, vr a, vi (Int32.ofNat ys.length)] [(.int (Int32.ofNat (xs.length + ys.length))), (.ref b)])
  obtain ⟨v13, T13, L13, X13, q13, st13⟩ := callVt X12 hx hZ (y := (⟨"java/lang/AbstractStringBuilder", "ensureCapacityInternal", "(I)V"⟩ : MethodName)) hown (hw _ w_95) (declOf (hw _ w_96) (hw _ w_99)) (hw _ w_98) (hw _ w_96) (hw _ w_64) (hw _ w_99) (by decide) (W := 0) (rmEns1 l Z a0 hw n0 h0 O b d kd (bb1 xs N) N (xs.length + ys.length) hN hN' G1 G2 VD) e12 B (by decide) (by decide) (by decide) (by decide) (g := (mkF m 21 #[vr b, vr a, vi (Int32.ofNat ys.length)] [(.int (Int32.ofNat (xs.length + ys.length))), (.ref b)])) rfl (by rw [hml]; rfl) (argsL := [(.int (Int32.ofNat (xs.length + ys.length)))]) (rest := []) (lenOf pd_oIcV rfl) rfl (wk rfl rfl) (hb hby d15_21)
  obtain ⟨rfl, e13, rfl⟩ := q13
  have N13 := Fr.app N11 (Fr.nil n0)
  refine Fin.go st13 ?_
  show Fin _ _ _ _ _ _ _ _ T13 (mkF m 24 #[vr b, vr a, vi (Int32.ofNat ys.length)] [])
  refine .go (fun _ k => XS.aloadN X13.here hx rfl (hb hby d15_24) rfl rfl k) ?_
  refine .go (fun _ k => XS.aloadN X13.here hx rfl (hb hby d15_25) rfl rfl k) ?_
  obtain ⟨T14, X14, e14, st14⟩ := getF X13 hx hZ hown (host := "") (Or.inl (hw _ w_93)) Via.refl e13 G3 (g := (mkF m 26 #[vr b, vr a, vi (Int32.ofNat ys.length)] [(.ref b), (.ref b)])) rfl rfl (hb hby d15_26)
  refine Fin.go st14 ?_
  show Fin _ _ _ _ _ _ _ _ T14 (mkF m 29 #[vr b, vr a, vi (Int32.ofNat ys.length)] [(.int (Int32.ofNat xs.length)), (.ref b)])
  refine .go (fun _ k => XS.aloadN X14.here hx rfl (hb hby d15_29) rfl rfl k) ?_
  obtain ⟨v15, T15, L15, X15, q15, st15⟩ := callVt X14 hx hZ (y := (⟨"java/lang/AbstractStringBuilder", "putStringAt", "(ILjava/lang/String;)V"⟩ : MethodName)) hown (hw _ w_126) (declOf (hw _ w_127) (hw _ w_130)) (hw _ w_129) (hw _ w_127) (hw _ w_64) (hw _ w_130) (by decide) (W := 0) (rmPS10 l Z a0 hw n0 h0 O b d a q kd kq xs ys N hN hN' hlx hly hcx hcy B G1 G2 G3 G4 VD A F1 F2 VQ nb nd ndb nab nqb nqd cs S_cs hcs S_as S_hb S_lb fm hfm S_fm) e14 B (by decide) (by decide) (by decide) (by decide) (g := (mkF m 30 #[vr b, vr a, vi (Int32.ofNat ys.length)] [(.ref a), (.int (Int32.ofNat xs.length)), (.ref b)])) rfl (by rw [hml]; rfl) (argsL := [(.int (Int32.ofNat xs.length)), (.ref a)]) (rest := []) (lenOf pd_oILjava_lang_String_cV rfl) rfl (wk rfl rfl) (hb hby d15_30)
  obtain ⟨rfl, Nq15, Kq15, V15⟩ := q15
  have N15 := Fr.app N13 Nq15
  have O15 := O.keep Kq15 (allS nd all0)
  have K15 := K0.trans Kq15 (allS (Or.inl (List.mem_of_getElem? (i := 1) rfl)) all0)
  refine Fin.go st15 ?_
  show Fin _ _ _ _ _ _ _ _ T15 (mkF m 33 #[vr b, vr a, vi (Int32.ofNat ys.length)] [])
  refine .go (fun _ k => XS.aloadN X15.here hx rfl (hb hby d15_33) rfl rfl k) ?_
  refine .go (fun _ k => XS.dup X15.here hx rfl (hb hby d15_34) rfl rfl k) ?_
  obtain ⟨T16, X16, e16, st16⟩ := getF X15 hx hZ hown (host := "") (Or.inl (hw _ w_93)) Via.refl (rfl : T15.heap = T15.heap) (G3.keep Kq15 (ninS (Ne.symm ndb) nin0)) (g := (mkF m 35 #[vr b, vr a, vi (Int32.ofNat ys.length)] [(.ref b), (.ref b)])) rfl rfl (hb hby d15_35)
  refine Fin.go st16 ?_
  show Fin _ _ _ _ _ _ _ _ T16 (mkF m 38 #[vr b, vr a, vi (Int32.ofNat ys.length)] [(.int (Int32.ofNat xs.length)), (.ref b)])
  refine .go (fun _ k => XS.iloadN X16.here hx rfl (hb hby d15_38) rfl k) ?_
  refine .go (fun _ k => XS.iadd X16.here hx rfl (hb hby d15_39) rfl k) ?_
  show Fin _ _ _ _ _ _ _ _ T16 (mkF m 40 #[vr b, vr a, vi (Int32.ofNat ys.length)] [(.int ((Int32.ofNat xs.length) + (Int32.ofNat ys.length))), (.ref b)])
  show Fin _ _ _ _ _ _ _ _ T16 (mkF m 40 #[vr b, vr a, vi (Int32.ofNat ys.length)] [(.int ((Int32.ofNat xs.length) + (Int32.ofNat ys.length))), (.ref b)])
  rw [on_add, ← List.length_append]
  show Fin _ _ _ _ _ _ _ _ T16 (mkF m 40 #[vr b, vr a, vi (Int32.ofNat ys.length)] [(.int (Int32.ofNat (xs ++ ys).length)), (.ref b)])
  obtain ⟨T17, h17, X17, e17, W17, st17⟩ := putF X16 hx hZ hown (host := "") (Or.inl (hw _ w_93)) Via.refl e16 (G3.keep Kq15 (ninS (Ne.symm ndb) nin0)) (B.keep Kq15) (Or.inl (hw _ w_94)) (hw _ w_55) (ty := .int) (by decide) rfl rfl (g := (mkF m 40 #[vr b, vr a, vi (Int32.ofNat ys.length)] [(.int (Int32.ofNat (xs ++ ys).length)), (.ref b)])) rfl rfl (hb hby d15_40)
  refine Fin.go st17 ?_
  have N17 := Fr.snoc X17 N15 nb
  have O17 := O15.wr W17 nb
  have K17 := K15.wr W17 (Or.inl (List.mem_of_getElem? (i := 0) rfl))
  have F17_b_value := ((G1.keep Kq15 (ninS (Ne.symm ndb) nin0)).other W17 (Or.inr (slot_ne (Or.inl (hw _ w_69)) (Or.inl (hw _ w_94)) (by decide) (t := (.array .byte)) (t' := .int) (by decide) (by decide))))
  have F17_b_coder := ((G2.keep Kq15 (ninS (Ne.symm ndb) nin0)).other W17 (Or.inr (slot_ne (Or.inl (hw _ w_71)) (Or.inl (hw _ w_94)) (by decide) (t := .byte) (t' := .int) (by decide) (by decide))))
  have F17_b_maybeLatin1 := ((G4.keep Kq15 (ninS (Ne.symm ndb) nin0)).other W17 (Or.inr (slot_ne (Or.inl (hw _ w_294)) (Or.inl (hw _ w_94)) (by decide) (t := .boolean) (t' := .int) (by decide) (by decide))))
  show Fin _ _ _ _ _ _ _ _ T17 (mkF m 43 #[vr b, vr a, vi (Int32.ofNat ys.length)] [])
  refine .go (fun _ k => XS.aloadN X17.here hx rfl (hb hby d15_43) rfl rfl k) ?_
  exact Fin.leaveN X17 e17 hlk (v := some (.ref b)) (nvS hret) (by decide) (by decide) ⟨rfl, N17, K17, d, kd, Or.inl rfl, (1 : Int32), ((B.keep Kq15).wr W17), F17_b_value, F17_b_coder, ((G3.keep Kq15 (ninS (Ne.symm ndb) nin0)).same W17), F17_b_maybeLatin1, Or.inr ⟨rfl, fun q => hlx (lat_app.mp q).1, (V15.other W17 ndb)⟩⟩ (fun fs hr => retOut X17 hx hret rfl (Or.inr (Or.inr (Or.inr (Or.inr ⟨rfl, rfl, rfl⟩)))) (hb hby d15_44) hr)
theorem rmAAG (l : Launch) (Z : State) (a0 : Array Value) (hw : HW a0 Z) (n0 : Nat) (h0 : Heap) (O : Old Z n0 h0) (b d a q : Addr) (kd kq : ClassId) (ys : List Int32) (h18 : ys.length = 18) (hly : Lat ys) (hcy : ∀ k, k < ys.length → ChI (ys.getD k 0)) (B : Exa Z h0 b "java/lang/StringBuilder") (G1 : Fld Z h0 b "java/lang/AbstractStringBuilder" "value" "[B" (.ref d)) (G2 : Fld Z h0 b "java/lang/AbstractStringBuilder" "coder" "B" (.int (0 : Int32))) (G3 : Fld Z h0 b "java/lang/AbstractStringBuilder" "count" "I" (.int (0 : Int32))) (G4 : Fld Z h0 b "java/lang/AbstractStringBuilder" "maybeLatin1" "Z" (.int (0 : Int32))) (VD : Arv Z h0 d kd .byte (16 : Int32) (ivL (List.replicate 16 0)) (.int (0 : Int32))) (A : Exa Z h0 a "java/lang/String") (F1 : Fld Z h0 a "java/lang/String" "coder" "B" (.int (0 : Int32))) (F2 : Fld Z h0 a "java/lang/String" "value" "[B" (.ref q)) (VQ : Arv Z h0 q kq .byte (Int32.ofNat ys.length) (ivL (ys.map b8f)) (.int (0 : Int32))) (nb : n0 ≤ b) (nd : n0 ≤ d) (ndb : d ≠ b) (nab : a ≠ b) (nqb : q ≠ b) (nqd : q ≠ d) (cs : Int32) (S_cs : Sta Z Z.heap "java/lang/String" "COMPACT_STRINGS" "Z" (.int cs)) (hcs : ¬ cs = 0) (S_as : SAs Z) (S_hb : SHb Z) (S_lb : SLb Z) (fm : Value) (hfm : fm.isRef = true) (S_fm : SFm Z fm) :
    ConW FrameEnd l Z [] (⟨"java/lang/AbstractStringBuilder", "append", "(Ljava/lang/String;)Ljava/lang/AbstractStringBuilder;"⟩ : MethodName) jdk_68_method_22_code 3 (some (.object "java/lang/AbstractStringBuilder")) ({ frames := 8, cells := 1, slots := 128, locals := 116 } : Room) #[(.ref b), (.ref a)] h0 (fun v h L => v = some (.ref b) ∧ Fr n0 L ∧ Keep h0 h [b, d] ∧ ∃ dn kn, (dn = d ∨ h0.size ≤ dn) ∧ SBx Z h b dn kn ys 34) := by
  refine conOf (plainFor_of_name pn_java_lang_AbstractStringBuilder) ?_
  intro p e s m below mth cc s₁ X0 hx hby hml hown hnm hret hlk hZ e0
  have N0 := Fr.nil n0
  have K0 := Keep.refl h0 ([b, d] : List Addr)
  refine Fin.came (castTop (t := _) (by first | (simp [entryFrame, mkF, argsToLocals, Value.category]; done) | rfl) (Steps.refl _) : Steps p.tables e below (s₁.setTop (entryFrame m #[(.ref b), (.ref a)] 3)) (s₁.setTop (mkF m 0 #[vr b, vr a, .unset] []))) ?_
  refine .go (fun _ k => XS.aloadN X0.here hx rfl (hb hby d15_0) rfl rfl k) ?_
  refine .go (fun _ k => XT.ifnonnullYes X0.here hx rfl (pc0 := 1) (pc' := 9) rfl (hb hby d15_1) rfl (by decide) (by decide) k) ?_
  refine .go (fun _ k => XS.aloadN X0.here hx rfl (hb hby d15_9) rfl rfl k) ?_
  obtain ⟨v11, T11, L11, X11, q11, st11⟩ := callVt X0 hx hZ (y := (⟨"java/lang/String", "length", "()I"⟩ : MethodName)) hown (hw _ w_83) (hw _ w_84) (hw _ w_86) (hw _ w_85) (hw _ w_3) (hw _ w_87) (by decide) (W := 0) (rmLen0 l Z a0 hw n0 h0 O a q kq ys (by omega) A F1 F2 VQ cs S_cs hcs) e0 A (by decide) (by decide) (by decide) (by decide) (g := (mkF m 10 #[vr b, vr a, .unset] [(.ref a)])) rfl (by rw [hml]; rfl) (argsL := []) (rest := []) (lenOf pd_ocI rfl) rfl (wk rfl rfl) (hb hby d15_10)
  obtain ⟨rfl, e11, rfl⟩ := q11
  have N11 := Fr.app N0 (Fr.nil n0)
  refine Fin.go st11 ?_
  show Fin _ _ _ _ _ _ _ _ T11 (mkF m 13 #[vr b, vr a, .unset] [(.int (Int32.ofNat ys.length))])
  refine .go (fun _ k => XS.istoreN X11.here hx rfl (hb hby d15_13) rfl (l' := #[vr b, vr a, vi (Int32.ofNat ys.length)]) rfl k) ?_
  refine .go (fun _ k => XS.aloadN X11.here hx rfl (hb hby d15_14) rfl rfl k) ?_
  refine .go (fun _ k => XS.aloadN X11.here hx rfl (hb hby d15_15) rfl rfl k) ?_
  obtain ⟨T12, X12, e12, st12⟩ := getF X11 hx hZ hown (host := "") (Or.inl (hw _ w_93)) Via.refl e11 G3 (g := (mkF m 16 #[vr b, vr a, vi (Int32.ofNat ys.length)] [(.ref b), (.ref b)])) rfl rfl (hb hby d15_16)
  refine Fin.go st12 ?_
  show Fin _ _ _ _ _ _ _ _ T12 (mkF m 19 #[vr b, vr a, vi (Int32.ofNat ys.length)] [(.int (0 : Int32)), (.ref b)])
  refine .go (fun _ k => XS.iloadN X12.here hx rfl (hb hby d15_19) rfl k) ?_
  refine .go (fun _ k => XS.iadd X12.here hx rfl (hb hby d15_20) rfl k) ?_
  show Fin _ _ _ _ _ _ _ _ T12 (mkF m 21 #[vr b, vr a, vi (Int32.ofNat ys.length)] [(.int ((0 : Int32) + (Int32.ofNat ys.length))), (.ref b)])
  show Fin _ _ _ _ _ _ _ _ T12 (mkF m 21 #[vr b, vr a, vi (Int32.ofNat ys.length)] [(.int ((0 : Int32) + (Int32.ofNat ys.length))), (.ref b)])
  rw [show (0 : Int32) + Int32.ofNat ys.length = 18 from by rw [h18]; decide]
  show Fin _ _ _ _ _ _ _ _ T12 (mkF m 21 #[vr b, vr a, vi (Int32.ofNat ys.length)] [(.int (18 : Int32)), (.ref b)])
  obtain ⟨v13, T13, L13, X13, q13, st13⟩ := callVt X12 hx hZ (y := (⟨"java/lang/AbstractStringBuilder", "ensureCapacityInternal", "(I)V"⟩ : MethodName)) hown (hw _ w_95) (declOf (hw _ w_96) (hw _ w_99)) (hw _ w_98) (hw _ w_96) (hw _ w_64) (hw _ w_99) (by decide) (W := 0) (rmEnsG l Z a0 hw n0 h0 O b d kd B G1 G2 G3 G4 VD nb) e12 B (by decide) (by decide) (by decide) (by decide) (g := (mkF m 21 #[vr b, vr a, vi (Int32.ofNat ys.length)] [(.int (18 : Int32)), (.ref b)])) rfl (by rw [hml]; rfl) (argsL := [(.int (18 : Int32))]) (rest := []) (lenOf pd_oIcV rfl) rfl (wk rfl rfl) (hb hby d15_21)
  obtain ⟨rfl, Nq13, Kq13, d13, kd13, B13, G113, G213, G313, G413, V13, zd13⟩ := q13
  have N13 := Fr.app N11 Nq13
  have O13 := O.keep Kq13 (allS nb all0)
  have K13 := K0.trans Kq13 (allS (Or.inl (List.mem_of_getElem? (i := 0) rfl)) all0)
  refine Fin.go st13 ?_
  show Fin _ _ _ _ _ _ _ _ T13 (mkF m 24 #[vr b, vr a, vi (Int32.ofNat ys.length)] [])
  have nzd13 : n0 ≤ d13 := Nat.le_trans (by have := O.1; have := O.2.1; omega) zd13
  have hzd13 : h0.size ≤ d13 := Nat.le_trans K0.1 zd13
  have bd13 : d13 ≠ b := Ne.symm (Nat.ne_of_lt (Nat.lt_of_lt_of_le B.lt zd13))
  refine .go (fun _ k => XS.aloadN X13.here hx rfl (hb hby d15_24) rfl rfl k) ?_
  refine .go (fun _ k => XS.aloadN X13.here hx rfl (hb hby d15_25) rfl rfl k) ?_
  obtain ⟨T14, X14, e14, st14⟩ := getF X13 hx hZ hown (host := "") (Or.inl (hw _ w_93)) Via.refl (rfl : T13.heap = T13.heap) G313 (g := (mkF m 26 #[vr b, vr a, vi (Int32.ofNat ys.length)] [(.ref b), (.ref b)])) rfl rfl (hb hby d15_26)
  refine Fin.go st14 ?_
  show Fin _ _ _ _ _ _ _ _ T14 (mkF m 29 #[vr b, vr a, vi (Int32.ofNat ys.length)] [(.int (0 : Int32)), (.ref b)])
  refine .go (fun _ k => XS.aloadN X14.here hx rfl (hb hby d15_29) rfl rfl k) ?_
  obtain ⟨v15, T15, L15, X15, q15, st15⟩ := callVt X14 hx hZ (y := (⟨"java/lang/AbstractStringBuilder", "putStringAt", "(ILjava/lang/String;)V"⟩ : MethodName)) hown (hw _ w_126) (declOf (hw _ w_127) (hw _ w_130)) (hw _ w_129) (hw _ w_127) (hw _ w_64) (hw _ w_130) (by decide) (W := 0) (rmPS00 l Z a0 hw n0 T13.heap O13 b d13 a q kd13 kq [] ys 34 (by simp; omega) (by decide) latN hly (fun k hk => absurd hk (Nat.not_lt_zero k)) hcy B13 G113 G213 G313 G413 V13 (A.keep Kq13) (F1.keep Kq13 (ninS nab nin0)) (F2.keep Kq13 (ninS nab nin0)) (VQ.keep Kq13 (ninS nqb nin0)) nb nzd13 bd13 nab nqb (Nat.ne_of_lt (Nat.lt_of_lt_of_le VQ.lt zd13)) cs S_cs hcs S_as S_hb S_lb fm hfm S_fm) e14 B13 (by decide) (by decide) (by decide) (by decide) (g := (mkF m 30 #[vr b, vr a, vi (Int32.ofNat ys.length)] [(.ref a), (.int (0 : Int32)), (.ref b)])) rfl (by rw [hml]; rfl) (argsL := [(.int (0 : Int32)), (.ref a)]) (rest := []) (lenOf pd_oILjava_lang_String_cV rfl) rfl (wk rfl rfl) (hb hby d15_30)
  obtain ⟨rfl, Nq15, Kq15, V15⟩ := q15
  have N15 := Fr.app N13 Nq15
  have O15 := O13.keep Kq15 (allS nzd13 all0)
  have K15 := K13.trans Kq15 (allS (Or.inr hzd13) all0)
  refine Fin.go st15 ?_
  have F15_a_coder := ((F1.keep Kq13 (ninS nab nin0)).keep Kq15 (ninS (Nat.ne_of_lt (Nat.lt_of_lt_of_le F2.lt zd13)) nin0))
  have F15_a_value := ((F2.keep Kq13 (ninS nab nin0)).keep Kq15 (ninS (Nat.ne_of_lt (Nat.lt_of_lt_of_le F2.lt zd13)) nin0))
  have V15_q := ((VQ.keep Kq13 (ninS nqb nin0)).keep Kq15 (ninS (Nat.ne_of_lt (Nat.lt_of_lt_of_le VQ.lt zd13)) nin0))
  have V15_d := ((VD.keep Kq13 (ninS ndb nin0)).keep Kq15 (ninS (Nat.ne_of_lt (Nat.lt_of_lt_of_le VD.lt zd13)) nin0))
  have F15_b_value := (G113.keep Kq15 (ninS (Nat.ne_of_lt (Nat.lt_of_lt_of_le G4.lt zd13)) nin0))
  have F15_b_coder := (G213.keep Kq15 (ninS (Nat.ne_of_lt (Nat.lt_of_lt_of_le G4.lt zd13)) nin0))
  have F15_b_count := (G313.keep Kq15 (ninS (Nat.ne_of_lt (Nat.lt_of_lt_of_le G4.lt zd13)) nin0))
  have F15_b_maybeLatin1 := (G413.keep Kq15 (ninS (Nat.ne_of_lt (Nat.lt_of_lt_of_le G4.lt zd13)) nin0))
  show Fin _ _ _ _ _ _ _ _ T15 (mkF m 33 #[vr b, vr a, vi (Int32.ofNat ys.length)] [])
  refine .go (fun _ k => XS.aloadN X15.here hx rfl (hb hby d15_33) rfl rfl k) ?_
  refine .go (fun _ k => XS.dup X15.here hx rfl (hb hby d15_34) rfl rfl k) ?_
  obtain ⟨T16, X16, e16, st16⟩ := getF X15 hx hZ hown (host := "") (Or.inl (hw _ w_93)) Via.refl (rfl : T15.heap = T15.heap) F15_b_count (g := (mkF m 35 #[vr b, vr a, vi (Int32.ofNat ys.length)] [(.ref b), (.ref b)])) rfl rfl (hb hby d15_35)
  refine Fin.go st16 ?_
  show Fin _ _ _ _ _ _ _ _ T16 (mkF m 38 #[vr b, vr a, vi (Int32.ofNat ys.length)] [(.int (0 : Int32)), (.ref b)])
  refine .go (fun _ k => XS.iloadN X16.here hx rfl (hb hby d15_38) rfl k) ?_
  refine .go (fun _ k => XS.iadd X16.here hx rfl (hb hby d15_39) rfl k) ?_
  show Fin _ _ _ _ _ _ _ _ T16 (mkF m 40 #[vr b, vr a, vi (Int32.ofNat ys.length)] [(.int ((0 : Int32) + (Int32.ofNat ys.length))), (.ref b)])
  show Fin _ _ _ _ _ _ _ _ T16 (mkF m 40 #[vr b, vr a, vi (Int32.ofNat ys.length)] [(.int ((0 : Int32) + (Int32.ofNat ys.length))), (.ref b)])
  rw [show (0 : Int32) + Int32.ofNat ys.length = Int32.ofNat ys.length from Int32.zero_add _]
  show Fin _ _ _ _ _ _ _ _ T16 (mkF m 40 #[vr b, vr a, vi (Int32.ofNat ys.length)] [(.int (Int32.ofNat ys.length)), (.ref b)])
  obtain ⟨T17, h17, X17, e17, W17, st17⟩ := putF X16 hx hZ hown (host := "") (Or.inl (hw _ w_93)) Via.refl e16 F15_b_count (B13.keep Kq15) (Or.inl (hw _ w_94)) (hw _ w_55) (ty := .int) (by decide) rfl rfl (g := (mkF m 40 #[vr b, vr a, vi (Int32.ofNat ys.length)] [(.int (Int32.ofNat ys.length)), (.ref b)])) rfl rfl (hb hby d15_40)
  refine Fin.go st17 ?_
  have N17 := Fr.snoc X17 N15 nb
  have O17 := O15.wr W17 nb
  have K17 := K15.wr W17 (Or.inl (List.mem_of_getElem? (i := 0) rfl))
  have F17_b_value := (F15_b_value.other W17 (Or.inr (slot_ne (Or.inl (hw _ w_69)) (Or.inl (hw _ w_94)) (by decide) (t := (.array .byte)) (t' := .int) (by decide) (by decide))))
  have F17_b_coder := (F15_b_coder.other W17 (Or.inr (slot_ne (Or.inl (hw _ w_71)) (Or.inl (hw _ w_94)) (by decide) (t := .byte) (t' := .int) (by decide) (by decide))))
  have F17_b_maybeLatin1 := (F15_b_maybeLatin1.other W17 (Or.inr (slot_ne (Or.inl (hw _ w_294)) (Or.inl (hw _ w_94)) (by decide) (t := .boolean) (t' := .int) (by decide) (by decide))))
  show Fin _ _ _ _ _ _ _ _ T17 (mkF m 43 #[vr b, vr a, vi (Int32.ofNat ys.length)] [])
  refine .go (fun _ k => XS.aloadN X17.here hx rfl (hb hby d15_43) rfl rfl k) ?_
  exact Fin.leaveN X17 e17 hlk (v := some (.ref b)) (nvS hret) (by decide) (by decide) ⟨rfl, N17, K17, d13, kd13, Or.inr hzd13, (0 : Int32), ((B13.keep Kq15).wr W17), F17_b_value, F17_b_coder, (F15_b_count.same W17), F17_b_maybeLatin1, Or.inl ⟨rfl, hly, (V15.other W17 bd13)⟩⟩ (fun fs hr => retOut X17 hx hret rfl (Or.inr (Or.inr (Or.inr (Or.inr ⟨rfl, rfl, rfl⟩)))) (hb hby d15_44) hr)
theorem rmAA (l : Launch) (Z : State) (a0 : Array Value) (hw : HW a0 Z) (n0 : Nat) (h0 : Heap) (O : Old Z n0 h0) (b d a q : Addr) (kd kq : ClassId) (xs ys : List Int32) (co : Int32) (N M : Nat) (hcase : (xs.length + ys.length ≤ N ∧ M = N) ∨ (N = 16 ∧ M = 34 ∧ xs = [] ∧ ys.length = 18 ∧ Lat ys)) (hM : M ≤ 64) (hno : Lat xs ∨ Lat ys) (hcx : ∀ k, k < xs.length → ChI (xs.getD k 0)) (hcy : ∀ k, k < ys.length → ChI (ys.getD k 0)) (FS : SBx Z h0 b d kd xs N) (A : Exa Z h0 a "java/lang/String") (F1 : Fld Z h0 a "java/lang/String" "coder" "B" (.int co)) (F2 : Fld Z h0 a "java/lang/String" "value" "[B" (.ref q)) (BQ : BX Z h0 q kq co ys) (nb : n0 ≤ b) (nd : n0 ≤ d) (ndb : d ≠ b) (nab : a ≠ b) (nqb : q ≠ b) (nqd : q ≠ d) (cs : Int32) (S_cs : Sta Z Z.heap "java/lang/String" "COMPACT_STRINGS" "Z" (.int cs)) (hcs : ¬ cs = 0) (S_as : SAs Z) (S_hb : SHb Z) (S_lb : SLb Z) (fm : Value) (hfm : fm.isRef = true) (S_fm : SFm Z fm) : Con FrameEnd l Z (⟨"java/lang/AbstractStringBuilder", "append", "(Ljava/lang/String;)Ljava/lang/AbstractStringBuilder;"⟩ : MethodName) jdk_68_method_22_code 3 (some (.object "java/lang/AbstractStringBuilder")) ({ frames := 8, cells := 1, slots := 128, locals := 116 } : Room) #[(.ref b), (.ref a)] h0 (fun v h L => v = some (.ref b) ∧ Fr n0 L ∧ Keep h0 h [b, d] ∧ ∃ dn kn, (dn = d ∨ h0.size ≤ dn) ∧ SBx Z h b dn kn (xs ++ ys) M) := by
  obtain ⟨cb, B, G1, G2, G3, G4, hV⟩ := FS
  rcases hcase with ⟨hN, rfl⟩ | ⟨rfl, rfl, rfl, h18, hl⟩
  · rcases hV with ⟨rfl, hlx, VD⟩ | ⟨rfl, hlx, VD⟩ <;> rcases BQ with ⟨rfl, hly, VQ⟩ | ⟨rfl, hly, VQ⟩
    · exact rmAA00 l Z a0 hw n0 h0 O b d a q kd kq xs ys _ hN hM hlx hly hcx hcy B G1 G2 G3 G4 VD A F1 F2 VQ nb nd ndb nab nqb nqd cs S_cs hcs S_as S_hb S_lb fm hfm S_fm
    · exact rmAA01 l Z a0 hw n0 h0 O b d a q kd kq xs ys _ hN hM hlx hly hcx hcy B G1 G2 G3 G4 VD A F1 F2 VQ nb nd ndb nab nqb nqd cs S_cs hcs S_as S_hb S_lb fm hfm S_fm
    · exact rmAA10 l Z a0 hw n0 h0 O b d a q kd kq xs ys _ hN hM hlx hly hcx hcy B G1 G2 G3 G4 VD A F1 F2 VQ nb nd ndb nab nqb nqd cs S_cs hcs S_as S_hb S_lb fm hfm S_fm
    · exact hno.elim (fun q => absurd q hlx) (fun q => absurd q hly)
  · rcases hV with ⟨rfl, hlx, VD⟩ | ⟨rfl, hlx, VD⟩
    · rcases BQ with ⟨rfl, hly, VQ⟩ | ⟨rfl, hly, VQ⟩
      · exact rmAAG l Z a0 hw n0 h0 O b d a q kd kq ys h18 hly hcy B G1 G2 G3 G4 VD A F1 F2 VQ nb nd ndb nab nqb nqd cs S_cs hcs S_as S_hb S_lb fm hfm S_fm
      · exact absurd hl hly
    · exact absurd latN hlx
theorem rmSA (l : Launch) (Z : State) (a0 : Array Value) (hw : HW a0 Z) (n0 : Nat) (h0 : Heap) (O : Old Z n0 h0) (b d a q : Addr) (kd kq : ClassId) (xs ys : List Int32) (co : Int32) (N M : Nat) (hcase : (xs.length + ys.length ≤ N ∧ M = N) ∨ (N = 16 ∧ M = 34 ∧ xs = [] ∧ ys.length = 18 ∧ Lat ys)) (hM : M ≤ 64) (hno : Lat xs ∨ Lat ys) (hcx : ∀ k, k < xs.length → ChI (xs.getD k 0)) (hcy : ∀ k, k < ys.length → ChI (ys.getD k 0)) (FS : SBx Z h0 b d kd xs N) (A : Exa Z h0 a "java/lang/String") (F1 : Fld Z h0 a "java/lang/String" "coder" "B" (.int co)) (F2 : Fld Z h0 a "java/lang/String" "value" "[B" (.ref q)) (BQ : BX Z h0 q kq co ys) (nb : n0 ≤ b) (nd : n0 ≤ d) (ndb : d ≠ b) (nab : a ≠ b) (nqb : q ≠ b) (nqd : q ≠ d) (cs : Int32) (S_cs : Sta Z Z.heap "java/lang/String" "COMPACT_STRINGS" "Z" (.int cs)) (hcs : ¬ cs = 0) (S_as : SAs Z) (S_hb : SHb Z) (S_lb : SLb Z) (fm : Value) (hfm : fm.isRef = true) (S_fm : SFm Z fm) :
    ConW FrameEnd l Z [] (⟨"java/lang/StringBuilder", "append", "(Ljava/lang/String;)Ljava/lang/StringBuilder;"⟩ : MethodName) jdk_67_method_7_code 2 (some (.object "java/lang/StringBuilder")) ({ frames := 9, cells := 1, slots := 128, locals := 130 } : Room) #[(.ref b), (.ref a)] h0 (fun v h L => v = some (.ref b) ∧ Fr n0 L ∧ Keep h0 h [b, d] ∧ ∃ dn kn, (dn = d ∨ h0.size ≤ dn) ∧ SBx Z h b dn kn (xs ++ ys) M) := by
  refine conOf (plainFor_of_name pn_java_lang_StringBuilder) ?_
  intro p e s m below mth cc s₁ X0 hx hby hml hown hnm hret hlk hZ e0
  have N0 := Fr.nil n0
  have K0 := Keep.refl h0 ([b, d] : List Addr)
  refine Fin.came (castTop (t := _) (by first | (simp [entryFrame, mkF, argsToLocals, Value.category]; done) | rfl) (Steps.refl _) : Steps p.tables e below (s₁.setTop (entryFrame m #[(.ref b), (.ref a)] 2)) (s₁.setTop (mkF m 0 #[vr b, vr a] []))) ?_
  refine .go (fun _ k => XS.aloadN X0.here hx rfl (hb hby d14_0) rfl rfl k) ?_
  refine .go (fun _ k => XS.aloadN X0.here hx rfl (hb hby d14_1) rfl rfl k) ?_
  obtain ⟨v11, T11, L11, X11, q11, st11⟩ := callSupt X0 hx hZ (y := (⟨"java/lang/AbstractStringBuilder", "append", "(Ljava/lang/String;)Ljava/lang/AbstractStringBuilder;"⟩ : MethodName)) (by decide) hown (hw _ w_78) (sameSelf (hw _ w_79) (hw _ w_129) rfl (by decide)) (hw _ w_79) (hw _ w_80) (hw _ w_64) (hw _ w_82) (W := 0) (rmAA l Z a0 hw n0 h0 O b d a q kd kq xs ys co N M hcase hM hno hcx hcy FS A F1 F2 BQ nb nd ndb nab nqb nqd cs S_cs hcs S_as S_hb S_lb fm hfm S_fm) e0 FS.exa (by decide) (by decide) (by decide) (by decide) (g := (mkF m 2 #[vr b, vr a] [(.ref a), (.ref b)])) rfl (by rw [hml]; rfl) (a := b) (argsL := [(.ref a)]) (rest := []) (lenOf pd_oLjava_lang_String_cLjava_lang_AbstractStringBuilder_ rfl) rfl (wk rfl rfl) (hb hby d14_2)
  obtain ⟨rfl, Nq11, Kq11, rest11⟩ := q11
  have N11 := Fr.app N0 Nq11
  have O11 := O.keep Kq11 (allS nb (allS nd all0))
  have K11 := K0.trans Kq11 (allS (Or.inl (List.mem_of_getElem? (i := 0) rfl)) (allS (Or.inl (List.mem_of_getElem? (i := 1) rfl)) all0))
  refine Fin.go st11 ?_
  show Fin _ _ _ _ _ _ _ _ T11 (mkF m 5 #[vr b, vr a] [(.ref b)])
  refine .go (fun _ k => XT.pop X11.here hx rfl (hb hby d14_5) rfl rfl k) ?_
  refine .go (fun _ k => XS.aloadN X11.here hx rfl (hb hby d14_6) rfl rfl k) ?_
  exact Fin.leaveN X11 (rfl : T11.heap = T11.heap) hlk (v := some (.ref b)) (nvS hret) (by decide) (by decide) ⟨rfl, N11, K11, rest11⟩ (fun fs hr => retOut X11 hx hret rfl (Or.inr (Or.inr (Or.inr (Or.inr ⟨rfl, rfl, rfl⟩)))) (hb hby d14_7) hr)
theorem rmAI (l : Launch) (Z : State) (a0 : Array Value) (hw : HW a0 Z) (n0 : Nat) (h0 : Heap) (O : Old Z n0 h0) (b : Addr) (B : Exa Z h0 b "java/lang/StringBuilder") (G1 : Fld Z h0 b "java/lang/AbstractStringBuilder" "value" "[B" .null) (G2 : Fld Z h0 b "java/lang/AbstractStringBuilder" "coder" "B" (.int (0 : Int32))) (G3 : Fld Z h0 b "java/lang/AbstractStringBuilder" "count" "I" (.int (0 : Int32))) (G4 : Fld Z h0 b "java/lang/AbstractStringBuilder" "maybeLatin1" "Z" (.int (0 : Int32))) (nb : n0 ≤ b) (cs : Int32) (S_cs : Sta Z Z.heap "java/lang/String" "COMPACT_STRINGS" "Z" (.int cs)) (hcs : ¬ cs = 0) :
    ConW FrameEnd l Z [] (⟨"java/lang/AbstractStringBuilder", "<init>", "(I)V"⟩ : MethodName) jdk_68_method_2_code 2 none ({ frames := 1, cells := 1, slots := 16, locals := 12 } : Room) #[(.ref b), (.int (16 : Int32))] h0 (fun v h L => v = none ∧ Fr n0 L ∧ Keep h0 h [b] ∧ ∃ d kd, h0.size ≤ d ∧ SBx Z h b d kd [] 16) := by
  refine conOf (plainFor_of_name pn_java_lang_AbstractStringBuilder) ?_
  intro p e s m below mth cc s₁ X0 hx hby hml hown hnm hret hlk hZ e0
  have N0 := Fr.nil n0
  have K0 := Keep.refl h0 ([b] : List Addr)
  refine Fin.came (castTop (t := _) (by first | (simp [entryFrame, mkF, argsToLocals, Value.category]; done) | rfl) (Steps.refl _) : Steps p.tables e below (s₁.setTop (entryFrame m #[(.ref b), (.int (16 : Int32))] 2)) (s₁.setTop (mkF m 0 #[vr b, vi (16 : Int32)] []))) ?_
  refine .go (fun _ k => XS.aloadN X0.here hx rfl (hb hby d13_0) rfl rfl k) ?_
  obtain ⟨T11, X11, e11, st11⟩ := initO X0 hx hZ hown (hw _ w_66) (hw _ w_21) (hw _ w_22) e0 (g := (mkF m 1 #[vr b, vi (16 : Int32)] [(.ref b)])) rfl (by rw [hml]; rfl) rfl (hb hby d13_1) (by decide) (W := 0) (wk rfl rfl) (by decide)
  refine Fin.go st11 ?_
  show Fin _ _ _ _ _ _ _ _ T11 (mkF m 4 #[vr b, vi (16 : Int32)] [])
  obtain ⟨T12, X12, e12, st12⟩ := getS2 X11 hx hZ hown (host := "") (Or.inl (hw _ w_67)) Via.refl e11 (S_cs.ext O.2) (g := (mkF m 4 #[vr b, vi (16 : Int32)] [])) rfl (hb hby d13_4)
  refine Fin.go st12 ?_
  show Fin _ _ _ _ _ _ _ _ T12 (mkF m 7 #[vr b, vi (16 : Int32)] [(.int cs)])
  refine .go (fun _ k => XS.ifNo X12.here hx rfl (hb hby d13_7) rfl (XT.i0_eq_f hcs) k) ?_
  show Fin _ _ _ _ _ _ _ _ T12 (mkF m 10 #[vr b, vi (16 : Int32)] [])
  refine .go (fun _ k => XS.aloadN X12.here hx rfl (hb hby d13_10) rfl rfl k) ?_
  refine .go (fun _ k => XS.iloadN X12.here hx rfl (hb hby d13_11) rfl k) ?_
  obtain ⟨T13, h13, k13, X13, e13, E13, A13, st13⟩ := newP X12 hx hZ (aty := .byte) (hw _ w_15) e12 (g := (mkF m 12 #[vr b, vi (16 : Int32)] [(.int (16 : Int32)), (.ref b)])) rfl (hb hby d13_12) rfl (by decide : ¬ ((16 : Int32) < (0 : Int32))) (cap := 16) (by decide) (by decide) (by decide) (by decide)
  obtain ⟨a13, g13⟩ : ∃ z, z = h0.size := ⟨_, rfl⟩
  rw [← g13] at A13 st13
  refine Fin.go st13 ?_
  have O13 := O.ext E13
  have K13 := K0.ext E13
  have n13 : n0 ≤ a13 := by have := O.2.1; have := O.1; omega
  have z13 : h0.size ≤ a13 := by have := K0.1; omega
  have V13 : Arv Z h13 a13 k13 .byte (16 : Int32) [(.int (0 : Int32)), (.int (0 : Int32)), (.int (0 : Int32)), (.int (0 : Int32)), (.int (0 : Int32)), (.int (0 : Int32)), (.int (0 : Int32)), (.int (0 : Int32)), (.int (0 : Int32)), (.int (0 : Int32)), (.int (0 : Int32)), (.int (0 : Int32)), (.int (0 : Int32)), (.int (0 : Int32)), (.int (0 : Int32)), (.int (0 : Int32))] (.int (0 : Int32)) := (Arv.new A13 (by decide)).pad (pad_rep [] (.int (0 : Int32)) 16)
  show Fin _ _ _ _ _ _ _ _ T13 (mkF m 14 #[vr b, vi (16 : Int32)] [(.ref a13), (.ref b)])
  obtain ⟨T14, h14, X14, e14, W14, st14⟩ := putF X13 hx hZ hown (host := "") (Or.inl (hw _ w_68)) Via.refl e13 (G1.ext E13) (B.ext E13) (Or.inl (hw _ w_69)) (hw _ w_55) (ty := (.array .byte)) (by decide) rfl rfl (g := (mkF m 14 #[vr b, vi (16 : Int32)] [(.ref a13), (.ref b)])) rfl rfl (hb hby d13_14)
  refine Fin.go st14 ?_
  have N14 := Fr.snoc X14 N0 nb
  have O14 := O13.wr W14 nb
  have K14 := K13.wr W14 (Or.inl (List.mem_of_getElem? (i := 0) rfl))
  have F14_b_coder := ((G2.ext E13).other W14 (Or.inr (slot_ne (Or.inl (hw _ w_71)) (Or.inl (hw _ w_69)) (by decide) (t := .byte) (t' := (.array .byte)) (by decide) (by decide))))
  have F14_b_count := ((G3.ext E13).other W14 (Or.inr (slot_ne (Or.inl (hw _ w_94)) (Or.inl (hw _ w_69)) (by decide) (t := .int) (t' := (.array .byte)) (by decide) (by decide))))
  have F14_b_maybeLatin1 := ((G4.ext E13).other W14 (Or.inr (slot_ne (Or.inl (hw _ w_294)) (Or.inl (hw _ w_69)) (by decide) (t := .boolean) (t' := (.array .byte)) (by decide) (by decide))))
  have V14_a13 := (V13.other W14 (Ne.symm (Nat.ne_of_lt (Nat.lt_of_lt_of_eq B.lt g13.symm))))
  show Fin _ _ _ _ _ _ _ _ T14 (mkF m 17 #[vr b, vi (16 : Int32)] [])
  refine .go (fun _ k => XS.aloadN X14.here hx rfl (hb hby d13_17) rfl rfl k) ?_
  refine .go (fun _ k => XS.iconst X14.here hx rfl (hb hby d13_18) k) ?_
  obtain ⟨T15, h15, X15, e15, W15, st15⟩ := putF X14 hx hZ hown (host := "") (Or.inl (hw _ w_70)) Via.refl e14 F14_b_coder ((B.ext E13).wr W14) (Or.inl (hw _ w_71)) (hw _ w_55) (ty := .byte) (by decide) rfl rfl (g := (mkF m 19 #[vr b, vi (16 : Int32)] [(.int (0 : Int32)), (.ref b)])) rfl rfl (hb hby d13_19)
  refine Fin.go st15 ?_
  have N15 := Fr.snoc X15 N14 nb
  have O15 := O14.wr W15 nb
  have K15 := K14.wr W15 (Or.inl (List.mem_of_getElem? (i := 0) rfl))
  have F15_b_value := (((G1.ext E13).same W14).other W15 (Or.inr (slot_ne (Or.inl (hw _ w_69)) (Or.inl (hw _ w_71)) (by decide) (t := (.array .byte)) (t' := .byte) (by decide) (by decide))))
  have F15_b_count := (F14_b_count.other W15 (Or.inr (slot_ne (Or.inl (hw _ w_94)) (Or.inl (hw _ w_71)) (by decide) (t := .int) (t' := .byte) (by decide) (by decide))))
  have F15_b_maybeLatin1 := (F14_b_maybeLatin1.other W15 (Or.inr (slot_ne (Or.inl (hw _ w_294)) (Or.inl (hw _ w_71)) (by decide) (t := .boolean) (t' := .byte) (by decide) (by decide))))
  have V15_a13 := (V14_a13.other W15 (Ne.symm (Nat.ne_of_lt (Nat.lt_of_lt_of_eq B.lt g13.symm))))
  show Fin _ _ _ _ _ _ _ _ T15 (mkF m 22 #[vr b, vi (16 : Int32)] [])
  refine .go (fun _ k => XS.goto X15.here hx rfl (pc0 := 22) (pc' := 38) rfl (hb hby d13_22) (by decide) (by decide) k) ?_
  exact Fin.leaveN X15 e15 hlk (v := none) (fun _ => rfl) (by decide) (by decide) ⟨rfl, N15, K15, a13, k13, z13, (0 : Int32), (((B.ext E13).wr W14).wr W15), F15_b_value, (F14_b_coder.same W15), F15_b_count, F15_b_maybeLatin1, Or.inl ⟨rfl, latN, V15_a13⟩⟩ (fun fs hr => X15.returnOut hx hret (hb hby d13_38) hr)
theorem rmSI (l : Launch) (Z : State) (a0 : Array Value) (hw : HW a0 Z) (n0 : Nat) (h0 : Heap) (O : Old Z n0 h0) (b : Addr) (B : Exa Z h0 b "java/lang/StringBuilder") (G1 : Fld Z h0 b "java/lang/AbstractStringBuilder" "value" "[B" .null) (G2 : Fld Z h0 b "java/lang/AbstractStringBuilder" "coder" "B" (.int (0 : Int32))) (G3 : Fld Z h0 b "java/lang/AbstractStringBuilder" "count" "I" (.int (0 : Int32))) (G4 : Fld Z h0 b "java/lang/AbstractStringBuilder" "maybeLatin1" "Z" (.int (0 : Int32))) (nb : n0 ≤ b) (cs : Int32) (S_cs : Sta Z Z.heap "java/lang/String" "COMPACT_STRINGS" "Z" (.int cs)) (hcs : ¬ cs = 0) :
    ConW FrameEnd l Z [] (⟨"java/lang/StringBuilder", "<init>", "()V"⟩ : MethodName) jdk_67_method_1_code 1 none ({ frames := 2, cells := 1, slots := 16, locals := 25 } : Room) #[(.ref b)] h0 (fun v h L => v = none ∧ Fr n0 L ∧ Keep h0 h [b] ∧ ∃ d kd, h0.size ≤ d ∧ SBx Z h b d kd [] 16) := by
  refine conOf (plainFor_of_name pn_java_lang_StringBuilder) ?_
  intro p e s m below mth cc s₁ X0 hx hby hml hown hnm hret hlk hZ e0
  have N0 := Fr.nil n0
  have K0 := Keep.refl h0 ([b] : List Addr)
  refine Fin.came (castTop (t := _) (by first | (simp [entryFrame, mkF, argsToLocals, Value.category]; done) | rfl) (Steps.refl _) : Steps p.tables e below (s₁.setTop (entryFrame m #[(.ref b)] 1)) (s₁.setTop (mkF m 0 #[vr b] []))) ?_
  refine .go (fun _ k => XS.aloadN X0.here hx rfl (hb hby d12_0) rfl rfl k) ?_
  refine .go (fun _ k => XS.bipush X0.here hx rfl (hb hby d12_1) k) ?_
  obtain ⟨v11, T11, L11, X11, q11, st11⟩ := callCt X0 hx hZ (y := (⟨"java/lang/AbstractStringBuilder", "<init>", "(I)V"⟩ : MethodName)) rfl hown (hw _ w_60) (hw _ w_61) (hw _ w_64) (hw _ w_65) (by decide) (W := 0) (rmAI l Z a0 hw n0 h0 O b B G1 G2 G3 G4 nb cs S_cs hcs) e0 (by decide) (by decide) (by decide) (by decide) (g := (mkF m 3 #[vr b] [(.int (16 : Int32)), (.ref b)])) rfl (by rw [hml]; rfl) (a := b) (argsL := [(.int (16 : Int32))]) (rest := []) (lenOf pd_oIcV rfl) rfl (wk rfl rfl) (hb hby d12_3)
  obtain ⟨rfl, Nq11, Kq11, rest11⟩ := q11
  have N11 := Fr.app N0 Nq11
  have O11 := O.keep Kq11 (allS nb all0)
  have K11 := K0.trans Kq11 (allS (Or.inl (List.mem_of_getElem? (i := 0) rfl)) all0)
  refine Fin.go st11 ?_
  show Fin _ _ _ _ _ _ _ _ T11 (mkF m 6 #[vr b] [])
  exact Fin.leaveN X11 (rfl : T11.heap = T11.heap) hlk (v := none) (fun _ => rfl) (by decide) (by decide) ⟨rfl, N11, K11, rest11⟩ (fun fs hr => X11.returnOut hx hret (hb hby d12_6) hr)
theorem rmGV (l : Launch) (Z : State) (a0 : Array Value) (hw : HW a0 Z) (n0 : Nat) (h0 : Heap) (O : Old Z n0 h0) (b d : Addr) (G1 : Fld Z h0 b "java/lang/AbstractStringBuilder" "value" "[B" (.ref d)) :
    ConW FrameEnd l Z [] (⟨"java/lang/AbstractStringBuilder", "getValue", "()[B"⟩ : MethodName) jdk_68_method_64_code 1 (some (.array .byte)) ({ frames := 0, cells := 0, slots := 0, locals := 0 } : Room) #[(.ref b)] h0 (Pure h0 (some (.ref d))) := by
  refine conOf (plainFor_of_name pn_java_lang_AbstractStringBuilder) ?_
  intro p e s m below mth cc s₁ X0 hx hby hml hown hnm hret hlk hZ e0
  have N0 := Fr.nil n0
  refine Fin.came (castTop (t := _) (by first | (simp [entryFrame, mkF, argsToLocals, Value.category]; done) | rfl) (Steps.refl _) : Steps p.tables e below (s₁.setTop (entryFrame m #[(.ref b)] 1)) (s₁.setTop (mkF m 0 #[vr b] []))) ?_
  refine .go (fun _ k => XS.aloadN X0.here hx rfl (hb hby d30_0) rfl rfl k) ?_
  obtain ⟨T11, X11, e11, st11⟩ := getF X0 hx hZ hown (host := "") (Or.inl (hw _ w_68)) Via.refl e0 G1 (g := (mkF m 1 #[vr b] [(.ref b)])) rfl rfl (hb hby d30_1)
  refine Fin.go st11 ?_
  show Fin _ _ _ _ _ _ _ _ T11 (mkF m 4 #[vr b] [(.ref d)])
  exact Fin.leaveN X11 e11 hlk (v := some (.ref d)) (nvS hret) (by decide) (by decide) ⟨rfl, rfl, rfl⟩ (fun fs hr => retOut X11 hx hret rfl (Or.inr (Or.inr (Or.inr (Or.inr ⟨rfl, rfl, rfl⟩)))) (hb hby d30_4) hr)
theorem rmAL (l : Launch) (Z : State) (a0 : Array Value) (hw : HW a0 Z) (n0 : Nat) (h0 : Heap) (O : Old Z n0 h0) (b : Addr) (n : Int32) (G3 : Fld Z h0 b "java/lang/AbstractStringBuilder" "count" "I" (.int n)) :
    ConW FrameEnd l Z [] (⟨"java/lang/AbstractStringBuilder", "length", "()I"⟩ : MethodName) jdk_68_method_6_code 1 (some .int) ({ frames := 0, cells := 0, slots := 0, locals := 0 } : Room) #[(.ref b)] h0 (Pure h0 (some (.int n))) := by
  refine conOf (plainFor_of_name pn_java_lang_AbstractStringBuilder) ?_
  intro p e s m below mth cc s₁ X0 hx hby hml hown hnm hret hlk hZ e0
  have N0 := Fr.nil n0
  refine Fin.came (castTop (t := _) (by first | (simp [entryFrame, mkF, argsToLocals, Value.category]; done) | rfl) (Steps.refl _) : Steps p.tables e below (s₁.setTop (entryFrame m #[(.ref b)] 1)) (s₁.setTop (mkF m 0 #[vr b] []))) ?_
  refine .go (fun _ k => XS.aloadN X0.here hx rfl (hb hby d32_0) rfl rfl k) ?_
  obtain ⟨T11, X11, e11, st11⟩ := getF X0 hx hZ hown (host := "") (Or.inl (hw _ w_93)) Via.refl e0 G3 (g := (mkF m 1 #[vr b] [(.ref b)])) rfl rfl (hb hby d32_1)
  refine Fin.go st11 ?_
  show Fin _ _ _ _ _ _ _ _ T11 (mkF m 4 #[vr b] [(.int n)])
  exact Fin.leaveN X11 e11 hlk (v := some (.int n)) (nvS hret) (by decide) (by decide) ⟨rfl, rfl, rfl⟩ (fun fs hr => retI X11 hx hret (hb hby d32_4) hr)
theorem rmSL (l : Launch) (Z : State) (a0 : Array Value) (hw : HW a0 Z) (n0 : Nat) (h0 : Heap) (O : Old Z n0 h0) (b : Addr) (n : Int32) (B : Exa Z h0 b "java/lang/StringBuilder") (G3 : Fld Z h0 b "java/lang/AbstractStringBuilder" "count" "I" (.int n)) :
    ConW FrameEnd l Z [] (⟨"java/lang/StringBuilder", "length", "()I"⟩ : MethodName) jdk_67_method_93_code 1 (some .int) ({ frames := 1, cells := 0, slots := 0, locals := 12 } : Room) #[(.ref b)] h0 (Pure h0 (some (.int n))) := by
  refine conOf (plainFor_of_name pn_java_lang_StringBuilder) ?_
  intro p e s m below mth cc s₁ X0 hx hby hml hown hnm hret hlk hZ e0
  have N0 := Fr.nil n0
  refine Fin.came (castTop (t := _) (by first | (simp [entryFrame, mkF, argsToLocals, Value.category]; done) | rfl) (Steps.refl _) : Steps p.tables e below (s₁.setTop (entryFrame m #[(.ref b)] 1)) (s₁.setTop (mkF m 0 #[vr b] []))) ?_
  refine .go (fun _ k => XS.aloadN X0.here hx rfl (hb hby d31_0) rfl rfl k) ?_
  obtain ⟨v11, T11, L11, X11, q11, st11⟩ := callSupt X0 hx hZ (y := (⟨"java/lang/AbstractStringBuilder", "length", "()I"⟩ : MethodName)) (by decide) hown (hw _ w_167) (sameSelf (hw _ w_163) (hw _ w_129) rfl (by decide)) (hw _ w_163) (hw _ w_80) (hw _ w_64) (hw _ w_168) (W := 0) (rmAL l Z a0 hw n0 h0 O b n G3) e0 B (by decide) (by decide) (by decide) (by decide) (g := (mkF m 1 #[vr b] [(.ref b)])) rfl (by rw [hml]; rfl) (a := b) (argsL := []) (rest := []) (lenOf pd_ocI rfl) rfl (wk rfl rfl) (hb hby d31_1)
  obtain ⟨rfl, e11, rfl⟩ := q11
  have N11 := Fr.app N0 (Fr.nil n0)
  refine Fin.go st11 ?_
  show Fin _ _ _ _ _ _ _ _ T11 (mkF m 4 #[vr b] [(.int n)])
  exact Fin.leaveN X11 e11 hlk (v := some (.int n)) (nvS hret) (by decide) (by decide) ⟨rfl, rfl, rfl⟩ (fun fs hr => retI X11 hx hret (hb hby d31_4) hr)
theorem rmCR (l : Launch) (Z : State) (a0 : Array Value) (hw : HW a0 Z) (n0 : Nat) (h0 : Heap) (O : Old Z n0 h0) (b : Addr) (kb : ClassId) (ys : List Int32) (N n : Nat) (hY : ys.length = N) (hN : N ≤ 256) (hn : n < N) (VB : Arv Z h0 b kb .byte (Int32.ofNat N) (ivL ys) (.int (0 : Int32))) :
    ConW FrameEnd l Z [] (⟨"java/util/Arrays", "copyOfRange", "([BII)[B"⟩ : MethodName) jdk_65_method_132_code 3 (some (.array .byte)) ({ frames := 2, cells := 1, slots := 256, locals := 76 } : Room) #[(.ref b), (.int (0 : Int32)), (.int (Int32.ofNat n))] h0 (fun v h L => ∃ d kd, v = some (.ref d) ∧ Fr n0 L ∧ Keep h0 h [] ∧ Arv Z h d kd .byte (Int32.ofNat n) (ivL (ys.take n)) (.int (0 : Int32)) ∧ h0.size ≤ d) := by
  refine conOf (plainFor_of_name pn_java_util_Arrays) ?_
  intro p e s m below mth cc s₁ X0 hx hby hml hown hnm hret hlk hZ e0
  have N0 := Fr.nil n0
  have K0 := Keep.refl h0 ([] : List Addr)
  refine Fin.came (castTop (t := _) (by first | (simp [entryFrame, mkF, argsToLocals, Value.category]; done) | rfl) (Steps.refl _) : Steps p.tables e below (s₁.setTop (entryFrame m #[(.ref b), (.int (0 : Int32)), (.int (Int32.ofNat n))] 3)) (s₁.setTop (mkF m 0 #[vr b, vi (0 : Int32), vi (Int32.ofNat n)] []))) ?_
  refine .go (fun _ k => XS.iloadN X0.here hx rfl (hb hby d34_0) rfl k) ?_
  refine .go (fun _ k => XS.ifNo X0.here hx rfl (hb hby d34_1) rfl (XT.i0_ne_f (by decide)) k) ?_
  show Fin _ _ _ _ _ _ _ _ s₁ (mkF m 4 #[vr b, vi (0 : Int32), vi (Int32.ofNat n)] [])
  refine .go (fun _ k => XS.iloadN X0.here hx rfl (hb hby d34_4) rfl k) ?_
  refine .go (fun _ k => XS.aloadN X0.here hx rfl (hb hby d34_5) rfl rfl k) ?_
  obtain ⟨cz11, B11, q11, S11, M11, H11, G11⟩ := id VB
  refine Fin.go (fun _ k => X0.arraylength hx (by rw [e0]; exact B11.1) (State.isArrayOf_alike hZ.alike B11.2.1) (g := (mkF m 6 #[vr b, vi (0 : Int32), vi (Int32.ofNat n)] [(.ref b), (.int (Int32.ofNat n))])) rfl rfl (hb hby d34_6) _ k) ?_
  rw [len_of S11 M11]
  show Fin _ _ _ _ _ _ _ _ s₁ (mkF m 7 #[vr b, vi (0 : Int32), vi (Int32.ofNat n)] [(.int (Int32.ofNat N)), (.int (Int32.ofNat n))])
  refine .go (fun _ k => XS.icmpNo X0.here hx rfl (hb hby d34_7) rfl (XT.ii_eq_f (on_ne hn (by omega))) k) ?_
  show Fin _ _ _ _ _ _ _ _ s₁ (mkF m 10 #[vr b, vi (0 : Int32), vi (Int32.ofNat n)] [])
  refine .go (fun _ k => XS.aloadN X0.here hx rfl (hb hby d34_10) rfl rfl k) ?_
  refine .go (fun _ k => XS.iloadN X0.here hx rfl (hb hby d34_11) rfl k) ?_
  refine .go (fun _ k => XS.iloadN X0.here hx rfl (hb hby d34_12) rfl k) ?_
  obtain ⟨v12, T12, L12, X12, q12, st12⟩ := callSt X0 hx hZ hown (hw _ w_177) (hw _ w_178) (hw _ w_117) (hw _ w_179) (by decide) (W := 0) (rmCRB l Z a0 hw n0 h0 O b kb ys N n hY hN (Nat.le_of_lt hn) VB) e0 (by decide) (by decide) (by decide) (by decide) (g := (mkF m 13 #[vr b, vi (0 : Int32), vi (Int32.ofNat n)] [(.int (Int32.ofNat n)), (.int (0 : Int32)), (.ref b)])) rfl (by rw [hml]; rfl) (argsL := [(.ref b), (.int (0 : Int32)), (.int (Int32.ofNat n))]) (rest := []) (lenOf pd_oABIIcAB rfl) rfl (wk rfl rfl) (hb hby d34_13)
  obtain ⟨d12, kd12, rfl, Nq12, Kq12, V12, zd12⟩ := q12
  have N12 := Fr.app N0 Nq12
  have O12 := O.keep Kq12 all0
  have K12 := K0.trans Kq12 all0
  refine Fin.go st12 ?_
  show Fin _ _ _ _ _ _ _ _ T12 (mkF m 16 #[vr b, vi (0 : Int32), vi (Int32.ofNat n)] [(.ref d12)])
  have nzd12 : n0 ≤ d12 := Nat.le_trans (by have := O.1; have := O.2.1; omega) zd12
  have hzd12 : h0.size ≤ d12 := Nat.le_trans K0.1 zd12
  exact Fin.leaveN X12 (rfl : T12.heap = T12.heap) hlk (v := some (.ref d12)) (nvS hret) (by decide) (by decide) ⟨d12, kd12, rfl, N12, K12, V12, hzd12⟩ (fun fs hr => retOut X12 hx hret rfl (Or.inr (Or.inr (Or.inr (Or.inr ⟨rfl, rfl, rfl⟩)))) (hb hby d34_16) hr)
theorem rmTV0 (l : Launch) (Z : State) (a0 : Array Value) (hw : HW a0 Z) (n0 : Nat) (h0 : Heap) (O : Old Z n0 h0) (a b d : Addr) (kd : ClassId) (xs : List Int32) (N : Nat) (hN : xs.length < N) (hN' : N ≤ 128) (hl : Lat xs) (B : Exa Z h0 b "java/lang/StringBuilder") (G1 : Fld Z h0 b "java/lang/AbstractStringBuilder" "value" "[B" (.ref d)) (G2 : Fld Z h0 b "java/lang/AbstractStringBuilder" "coder" "B" (.int (0 : Int32))) (G3 : Fld Z h0 b "java/lang/AbstractStringBuilder" "count" "I" (.int (Int32.ofNat xs.length))) (G4 : Fld Z h0 b "java/lang/AbstractStringBuilder" "maybeLatin1" "Z" (.int (0 : Int32))) (VD : Arv Z h0 d kd .byte (Int32.ofNat N) (ivL (bb0 xs N)) (.int (0 : Int32))) (A : Exa Z h0 a "java/lang/String") (F1 : Fld Z h0 a "java/lang/String" "coder" "B" (.int (0 : Int32))) (F2 : Fld Z h0 a "java/lang/String" "value" "[B" .null) (na : n0 ≤ a) (nba : b ≠ a) (nda : d ≠ a) (cs : Int32) (S_cs : Sta Z Z.heap "java/lang/String" "COMPACT_STRINGS" "Z" (.int cs)) (hcs : ¬ cs = 0) :
    ConW FrameEnd l Z [] (⟨"java/lang/String", "<init>", "(Ljava/lang/AbstractStringBuilder;Ljava/lang/Void;)V"⟩ : MethodName) jdk_42_method_150_code 5 none ({ frames := 3, cells := 1, slots := 256, locals := 91 } : Room) #[(.ref a), (.ref b), .null] h0 (fun v h L => v = none ∧ Fr n0 L ∧ Keep h0 h [a] ∧ Exa Z h a "java/lang/String" ∧ ∃ co d2 k2, Fld Z h a "java/lang/String" "coder" "B" (.int co) ∧ Fld Z h a "java/lang/String" "value" "[B" (.ref d2) ∧ BX Z h d2 k2 co xs ∧ h0.size ≤ d2) := by
  refine conOf (plainFor_of_name pn_java_lang_String) ?_
  intro p e s m below mth cc s₁ X0 hx hby hml hown hnm hret hlk hZ e0
  have N0 := Fr.nil n0
  have K0 := Keep.refl h0 ([a] : List Addr)
  refine Fin.came (castTop (t := _) (by first | (simp [entryFrame, mkF, argsToLocals, Value.category]; done) | rfl) (Steps.refl _) : Steps p.tables e below (s₁.setTop (entryFrame m #[(.ref a), (.ref b), .null] 5)) (s₁.setTop (mkF m 0 #[vr a, vr b, .val .null, .unset, .unset] []))) ?_
  refine .go (fun _ k => XS.aloadN X0.here hx rfl (hb hby d29_0) rfl rfl k) ?_
  obtain ⟨T11, X11, e11, st11⟩ := initO X0 hx hZ hown (hw _ w_20) (hw _ w_21) (hw _ w_22) e0 (g := (mkF m 1 #[vr a, vr b, .val .null, .unset, .unset] [(.ref a)])) rfl (by rw [hml]; rfl) rfl (hb hby d29_1) (by decide) (W := 0) (wk rfl rfl) (by decide)
  refine Fin.go st11 ?_
  show Fin _ _ _ _ _ _ _ _ T11 (mkF m 4 #[vr a, vr b, .val .null, .unset, .unset] [])
  refine .go (fun _ k => XS.aloadN X11.here hx rfl (hb hby d29_4) rfl rfl k) ?_
  obtain ⟨v12, T12, L12, X12, q12, st12⟩ := callVt X11 hx hZ (y := (⟨"java/lang/AbstractStringBuilder", "getValue", "()[B"⟩ : MethodName)) hown (hw _ w_156) (hw _ w_157) (hw _ w_159) (hw _ w_158) (hw _ w_64) (hw _ w_160) (by decide) (W := 0) (rmGV l Z a0 hw n0 h0 O b d G1) e11 B (by decide) (by decide) (by decide) (by decide) (g := (mkF m 5 #[vr a, vr b, .val .null, .unset, .unset] [(.ref b)])) rfl (by rw [hml]; rfl) (argsL := []) (rest := []) (lenOf pd_ocAB rfl) rfl (wk rfl rfl) (hb hby d29_5)
  obtain ⟨rfl, e12, rfl⟩ := q12
  have N12 := Fr.app N0 (Fr.nil n0)
  refine Fin.go st12 ?_
  show Fin _ _ _ _ _ _ _ _ T12 (mkF m 8 #[vr a, vr b, .val .null, .unset, .unset] [(.ref d)])
  refine .go (fun _ k => XS.astoreN X12.here hx rfl (hb hby d29_8) rfl rfl (l' := #[vr a, vr b, .val .null, vr d, .unset]) rfl k) ?_
  refine .go (fun _ k => XS.aloadN X12.here hx rfl (hb hby d29_9) rfl rfl k) ?_
  obtain ⟨v13, T13, L13, X13, q13, st13⟩ := callVZt X12 hx hZ (y := (⟨"java/lang/AbstractStringBuilder", "length", "()I"⟩ : MethodName)) (z := (⟨"java/lang/StringBuilder", "length", "()I"⟩ : MethodName)) hown (hw _ w_161) (hw _ w_162) (hw _ w_164) (hw _ w_129) rfl (hw _ w_165) (hw _ w_56) (hw _ w_166) (by decide) (W := 0) (rmSL l Z a0 hw n0 h0 O b _ B G3) e12 B (by decide) (by decide) (by decide) (by decide) (g := (mkF m 10 #[vr a, vr b, .val .null, vr d, .unset] [(.ref b)])) rfl (by rw [hml]; rfl) (argsL := []) (rest := []) (lenOf pd_ocI rfl) rfl (wk rfl rfl) (hb hby d29_10)
  obtain ⟨rfl, e13, rfl⟩ := q13
  have N13 := Fr.app N12 (Fr.nil n0)
  refine Fin.go st13 ?_
  show Fin _ _ _ _ _ _ _ _ T13 (mkF m 13 #[vr a, vr b, .val .null, vr d, .unset] [(.int (Int32.ofNat xs.length))])
  refine .go (fun _ k => XS.istore X13.here hx rfl (hb hby d29_13) rfl (l' := #[vr a, vr b, .val .null, vr d, vi (Int32.ofNat xs.length)]) rfl k) ?_
  refine .go (fun _ k => XS.aloadN X13.here hx rfl (hb hby d29_15) rfl rfl k) ?_
  obtain ⟨v14, T14, L14, X14, q14, st14⟩ := callVt X13 hx hZ (y := (⟨"java/lang/AbstractStringBuilder", "isLatin1", "()Z"⟩ : MethodName)) hown (hw _ w_169) (hw _ w_170) (hw _ w_172) (hw _ w_171) (hw _ w_64) (hw _ w_173) (by decide) (W := 0) (rmIL0 l Z a0 hw n0 h0 O b G2 cs S_cs hcs) e13 B (by decide) (by decide) (by decide) (by decide) (g := (mkF m 16 #[vr a, vr b, .val .null, vr d, vi (Int32.ofNat xs.length)] [(.ref b)])) rfl (by rw [hml]; rfl) (argsL := []) (rest := []) (lenOf pd_ocZ rfl) rfl (wk rfl rfl) (hb hby d29_16)
  obtain ⟨rfl, e14, rfl⟩ := q14
  have N14 := Fr.app N13 (Fr.nil n0)
  refine Fin.go st14 ?_
  show Fin _ _ _ _ _ _ _ _ T14 (mkF m 19 #[vr a, vr b, .val .null, vr d, vi (Int32.ofNat xs.length)] [(.int (1 : Int32))])
  refine .go (fun _ k => XS.ifNo X14.here hx rfl (hb hby d29_19) rfl (XT.i0_eq_f (by decide)) k) ?_
  show Fin _ _ _ _ _ _ _ _ T14 (mkF m 22 #[vr a, vr b, .val .null, vr d, vi (Int32.ofNat xs.length)] [])
  refine .go (fun _ k => XS.aloadN X14.here hx rfl (hb hby d29_22) rfl rfl k) ?_
  refine .go (fun _ k => XS.iconst X14.here hx rfl (hb hby d29_23) k) ?_
  obtain ⟨T15, h15, X15, e15, W15, st15⟩ := putF X14 hx hZ hown (host := "") (Or.inl (hw _ w_25)) Via.refl e14 F1 A (Or.inr ⟨(hw _ w_26), rfl, hnm⟩) (hw _ w_11) (ty := .byte) (by decide) rfl rfl (g := (mkF m 24 #[vr a, vr b, .val .null, vr d, vi (Int32.ofNat xs.length)] [(.int (0 : Int32)), (.ref a)])) rfl rfl (hb hby d29_24)
  refine Fin.go st15 ?_
  have N15 := Fr.snoc X15 N14 na
  have O15 := O.wr W15 na
  have K15 := K0.wr W15 (Or.inl (List.mem_of_getElem? (i := 0) rfl))
  have F15_a_value := (F2.other W15 (Or.inr (slot_ne (Or.inr (hw _ w_24)) (Or.inr (hw _ w_26)) (by decide) (t := (.array .byte)) (t' := .byte) (by decide) (by decide))))
  show Fin _ _ _ _ _ _ _ _ T15 (mkF m 27 #[vr a, vr b, .val .null, vr d, vi (Int32.ofNat xs.length)] [])
  refine .go (fun _ k => XS.aloadN X15.here hx rfl (hb hby d29_27) rfl rfl k) ?_
  refine .go (fun _ k => XS.aloadN X15.here hx rfl (hb hby d29_28) rfl rfl k) ?_
  refine .go (fun _ k => XS.iconst X15.here hx rfl (hb hby d29_29) k) ?_
  refine .go (fun _ k => XS.iload X15.here hx rfl (hb hby d29_30) rfl k) ?_
  show Fin _ _ _ _ _ _ _ _ T15 (mkF m 32 #[vr a, vr b, .val .null, vr d, vi (Int32.ofNat xs.length)] [(.int (Int32.ofNat xs.length)), (.int (0 : Int32)), (.ref d), (.ref a)])
  obtain ⟨v16, T16, L16, X16, q16, st16⟩ := callSt X15 hx hZ hown (hw _ w_174) (hw _ w_175) (hw _ w_117) (hw _ w_176) (by decide) (W := 1) (rmCR l Z a0 hw n0 h15 O15 d kd (bb0 xs N) N xs.length (bb0_len (by omega)) (by omega) (by omega) (VD.other W15 nda)) e15 (by decide) (by decide) (by decide) (by decide) (g := (mkF m 32 #[vr a, vr b, .val .null, vr d, vi (Int32.ofNat xs.length)] [(.int (Int32.ofNat xs.length)), (.int (0 : Int32)), (.ref d), (.ref a)])) rfl (by rw [hml]; rfl) (argsL := [(.ref d), (.int (0 : Int32)), (.int (Int32.ofNat xs.length))]) (rest := [(.ref a)]) (lenOf pd_oABIIcAB rfl) rfl (wk rfl rfl) (hb hby d29_32)
  obtain ⟨d16, kd16, rfl, Nq16, Kq16, V16, zd16⟩ := q16
  have N16 := Fr.app N15 Nq16
  have O16 := O15.keep Kq16 all0
  have K16 := K15.trans Kq16 all0
  refine Fin.go st16 ?_
  show Fin _ _ _ _ _ _ _ _ T16 (mkF m 35 #[vr a, vr b, .val .null, vr d, vi (Int32.ofNat xs.length)] [(.ref d16), (.ref a)])
  have nzd16 : n0 ≤ d16 := Nat.le_trans (by have := O15.1; have := O15.2.1; omega) zd16
  have hzd16 : h0.size ≤ d16 := Nat.le_trans K15.1 zd16
  rw [bb0_take] at V16
  obtain ⟨T17, h17, X17, e17, W17, st17⟩ := putF X16 hx hZ hown (host := "") (Or.inl (hw _ w_23)) Via.refl (rfl : T16.heap = T16.heap) (F15_a_value.keep Kq16 nin0) ((A.wr W15).keep Kq16) (Or.inr ⟨(hw _ w_24), rfl, hnm⟩) (hw _ w_11) (ty := (.array .byte)) (by decide) rfl rfl (g := (mkF m 35 #[vr a, vr b, .val .null, vr d, vi (Int32.ofNat xs.length)] [(.ref d16), (.ref a)])) rfl rfl (hb hby d29_35)
  refine Fin.go st17 ?_
  have N17 := Fr.snoc X17 N16 na
  have O17 := O16.wr W17 na
  have K17 := K16.wr W17 (Or.inl (List.mem_of_getElem? (i := 0) rfl))
  have F17_b_value := (((G1.other W15 (Or.inl nba)).keep Kq16 nin0).other W17 (Or.inl nba))
  have F17_b_coder := (((G2.other W15 (Or.inl nba)).keep Kq16 nin0).other W17 (Or.inl nba))
  have F17_b_count := (((G3.other W15 (Or.inl nba)).keep Kq16 nin0).other W17 (Or.inl nba))
  have F17_b_maybeLatin1 := (((G4.other W15 (Or.inl nba)).keep Kq16 nin0).other W17 (Or.inl nba))
  have F17_a_coder := (((F1.same W15).keep Kq16 nin0).other W17 (Or.inr (slot_ne (Or.inr (hw _ w_26)) (Or.inr (hw _ w_24)) (by decide) (t := .byte) (t' := (.array .byte)) (by decide) (by decide))))
  have V17_d16 := (V16.other W17 (Ne.symm (Nat.ne_of_lt (Nat.lt_of_lt_of_le F15_a_value.lt zd16))))
  show Fin _ _ _ _ _ _ _ _ T17 (mkF m 38 #[vr a, vr b, .val .null, vr d, vi (Int32.ofNat xs.length)] [])
  refine .go (fun _ k => XS.goto X17.here hx rfl (pc0 := 38) (pc' := 97) rfl (hb hby d29_38) (by decide) (by decide) k) ?_
  exact Fin.leaveN X17 e17 hlk (v := none) (fun _ => rfl) (by decide) (by decide) ⟨rfl, N17, K17, (((A.wr W15).keep Kq16).wr W17), (0 : Int32), d16, kd16, F17_a_coder, ((F15_a_value.keep Kq16 nin0).same W17), Or.inl ⟨rfl, hl, V17_d16⟩, hzd16⟩ (fun fs hr => X17.returnOut hx hret (hb hby d29_97) hr)
theorem rmTV1 (l : Launch) (Z : State) (a0 : Array Value) (hw : HW a0 Z) (n0 : Nat) (h0 : Heap) (O : Old Z n0 h0) (a b d : Addr) (kd : ClassId) (xs : List Int32) (N : Nat) (hN : xs.length < N) (hN' : N ≤ 128) (hl : ¬ Lat xs) (B : Exa Z h0 b "java/lang/StringBuilder") (G1 : Fld Z h0 b "java/lang/AbstractStringBuilder" "value" "[B" (.ref d)) (G2 : Fld Z h0 b "java/lang/AbstractStringBuilder" "coder" "B" (.int (1 : Int32))) (G3 : Fld Z h0 b "java/lang/AbstractStringBuilder" "count" "I" (.int (Int32.ofNat xs.length))) (G4 : Fld Z h0 b "java/lang/AbstractStringBuilder" "maybeLatin1" "Z" (.int (0 : Int32))) (VD : Arv Z h0 d kd .byte (Int32.ofNat (2 * N)) (ivL (bb1 xs N)) (.int (0 : Int32))) (A : Exa Z h0 a "java/lang/String") (F1 : Fld Z h0 a "java/lang/String" "coder" "B" (.int (0 : Int32))) (F2 : Fld Z h0 a "java/lang/String" "value" "[B" .null) (na : n0 ≤ a) (nba : b ≠ a) (nda : d ≠ a) (cs : Int32) (S_cs : Sta Z Z.heap "java/lang/String" "COMPACT_STRINGS" "Z" (.int cs)) (hcs : ¬ cs = 0) :
    ConW FrameEnd l Z [] (⟨"java/lang/String", "<init>", "(Ljava/lang/AbstractStringBuilder;Ljava/lang/Void;)V"⟩ : MethodName) jdk_42_method_150_code 5 none ({ frames := 3, cells := 1, slots := 256, locals := 91 } : Room) #[(.ref a), (.ref b), .null] h0 (fun v h L => v = none ∧ Fr n0 L ∧ Keep h0 h [a] ∧ Exa Z h a "java/lang/String" ∧ ∃ co d2 k2, Fld Z h a "java/lang/String" "coder" "B" (.int co) ∧ Fld Z h a "java/lang/String" "value" "[B" (.ref d2) ∧ BX Z h d2 k2 co xs ∧ h0.size ≤ d2) := by
  refine conOf (plainFor_of_name pn_java_lang_String) ?_
  intro p e s m below mth cc s₁ X0 hx hby hml hown hnm hret hlk hZ e0
  have N0 := Fr.nil n0
  have K0 := Keep.refl h0 ([a] : List Addr)
  refine Fin.came (castTop (t := _) (by first | (simp [entryFrame, mkF, argsToLocals, Value.category]; done) | rfl) (Steps.refl _) : Steps p.tables e below (s₁.setTop (entryFrame m #[(.ref a), (.ref b), .null] 5)) (s₁.setTop (mkF m 0 #[vr a, vr b, .val .null, .unset, .unset] []))) ?_
  refine .go (fun _ k => XS.aloadN X0.here hx rfl (hb hby d29_0) rfl rfl k) ?_
  obtain ⟨T11, X11, e11, st11⟩ := initO X0 hx hZ hown (hw _ w_20) (hw _ w_21) (hw _ w_22) e0 (g := (mkF m 1 #[vr a, vr b, .val .null, .unset, .unset] [(.ref a)])) rfl (by rw [hml]; rfl) rfl (hb hby d29_1) (by decide) (W := 0) (wk rfl rfl) (by decide)
  refine Fin.go st11 ?_
  show Fin _ _ _ _ _ _ _ _ T11 (mkF m 4 #[vr a, vr b, .val .null, .unset, .unset] [])
  refine .go (fun _ k => XS.aloadN X11.here hx rfl (hb hby d29_4) rfl rfl k) ?_
  obtain ⟨v12, T12, L12, X12, q12, st12⟩ := callVt X11 hx hZ (y := (⟨"java/lang/AbstractStringBuilder", "getValue", "()[B"⟩ : MethodName)) hown (hw _ w_156) (hw _ w_157) (hw _ w_159) (hw _ w_158) (hw _ w_64) (hw _ w_160) (by decide) (W := 0) (rmGV l Z a0 hw n0 h0 O b d G1) e11 B (by decide) (by decide) (by decide) (by decide) (g := (mkF m 5 #[vr a, vr b, .val .null, .unset, .unset] [(.ref b)])) rfl (by rw [hml]; rfl) (argsL := []) (rest := []) (lenOf pd_ocAB rfl) rfl (wk rfl rfl) (hb hby d29_5)
  obtain ⟨rfl, e12, rfl⟩ := q12
  have N12 := Fr.app N0 (Fr.nil n0)
  refine Fin.go st12 ?_
  show Fin _ _ _ _ _ _ _ _ T12 (mkF m 8 #[vr a, vr b, .val .null, .unset, .unset] [(.ref d)])
  refine .go (fun _ k => XS.astoreN X12.here hx rfl (hb hby d29_8) rfl rfl (l' := #[vr a, vr b, .val .null, vr d, .unset]) rfl k) ?_
  refine .go (fun _ k => XS.aloadN X12.here hx rfl (hb hby d29_9) rfl rfl k) ?_
  obtain ⟨v13, T13, L13, X13, q13, st13⟩ := callVZt X12 hx hZ (y := (⟨"java/lang/AbstractStringBuilder", "length", "()I"⟩ : MethodName)) (z := (⟨"java/lang/StringBuilder", "length", "()I"⟩ : MethodName)) hown (hw _ w_161) (hw _ w_162) (hw _ w_164) (hw _ w_129) rfl (hw _ w_165) (hw _ w_56) (hw _ w_166) (by decide) (W := 0) (rmSL l Z a0 hw n0 h0 O b _ B G3) e12 B (by decide) (by decide) (by decide) (by decide) (g := (mkF m 10 #[vr a, vr b, .val .null, vr d, .unset] [(.ref b)])) rfl (by rw [hml]; rfl) (argsL := []) (rest := []) (lenOf pd_ocI rfl) rfl (wk rfl rfl) (hb hby d29_10)
  obtain ⟨rfl, e13, rfl⟩ := q13
  have N13 := Fr.app N12 (Fr.nil n0)
  refine Fin.go st13 ?_
  show Fin _ _ _ _ _ _ _ _ T13 (mkF m 13 #[vr a, vr b, .val .null, vr d, .unset] [(.int (Int32.ofNat xs.length))])
  refine .go (fun _ k => XS.istore X13.here hx rfl (hb hby d29_13) rfl (l' := #[vr a, vr b, .val .null, vr d, vi (Int32.ofNat xs.length)]) rfl k) ?_
  refine .go (fun _ k => XS.aloadN X13.here hx rfl (hb hby d29_15) rfl rfl k) ?_
  obtain ⟨v14, T14, L14, X14, q14, st14⟩ := callVt X13 hx hZ (y := (⟨"java/lang/AbstractStringBuilder", "isLatin1", "()Z"⟩ : MethodName)) hown (hw _ w_169) (hw _ w_170) (hw _ w_172) (hw _ w_171) (hw _ w_64) (hw _ w_173) (by decide) (W := 0) (rmIL1 l Z a0 hw n0 h0 O b G2 cs S_cs hcs) e13 B (by decide) (by decide) (by decide) (by decide) (g := (mkF m 16 #[vr a, vr b, .val .null, vr d, vi (Int32.ofNat xs.length)] [(.ref b)])) rfl (by rw [hml]; rfl) (argsL := []) (rest := []) (lenOf pd_ocZ rfl) rfl (wk rfl rfl) (hb hby d29_16)
  obtain ⟨rfl, e14, rfl⟩ := q14
  have N14 := Fr.app N13 (Fr.nil n0)
  refine Fin.go st14 ?_
  show Fin _ _ _ _ _ _ _ _ T14 (mkF m 19 #[vr a, vr b, .val .null, vr d, vi (Int32.ofNat xs.length)] [(.int (0 : Int32))])
  refine .go (fun _ k => XS.ifYes X14.here hx rfl (pc0 := 19) (pc' := 41) rfl (hb hby d29_19) rfl (XT.i0_eq_t (by decide)) (by decide) (by decide) k) ?_
  show Fin _ _ _ _ _ _ _ _ T14 (mkF m 41 #[vr a, vr b, .val .null, vr d, vi (Int32.ofNat xs.length)] [])
  obtain ⟨T15, X15, e15, st15⟩ := getS2 X14 hx hZ hown (host := "") (Or.inl (hw _ w_5)) Via.refl e14 (S_cs.ext O.2) (g := (mkF m 41 #[vr a, vr b, .val .null, vr d, vi (Int32.ofNat xs.length)] [])) rfl (hb hby d29_41)
  refine Fin.go st15 ?_
  show Fin _ _ _ _ _ _ _ _ T15 (mkF m 44 #[vr a, vr b, .val .null, vr d, vi (Int32.ofNat xs.length)] [(.int cs)])
  refine .go (fun _ k => XS.ifNo X15.here hx rfl (hb hby d29_44) rfl (XT.i0_eq_f hcs) k) ?_
  show Fin _ _ _ _ _ _ _ _ T15 (mkF m 47 #[vr a, vr b, .val .null, vr d, vi (Int32.ofNat xs.length)] [])
  refine .go (fun _ k => XS.aloadN X15.here hx rfl (hb hby d29_47) rfl rfl k) ?_
  obtain ⟨T16, X16, e16, st16⟩ := getF X15 hx hZ hown (host := "") (Or.inl (hw _ w_293)) Via.refl e15 G4 (g := (mkF m 48 #[vr a, vr b, .val .null, vr d, vi (Int32.ofNat xs.length)] [(.ref b)])) rfl rfl (hb hby d29_48)
  refine Fin.go st16 ?_
  show Fin _ _ _ _ _ _ _ _ T16 (mkF m 51 #[vr a, vr b, .val .null, vr d, vi (Int32.ofNat xs.length)] [(.int (0 : Int32))])
  refine .go (fun _ k => XS.ifYes X16.here hx rfl (pc0 := 51) (pc' := 79) rfl (hb hby d29_51) rfl (XT.i0_eq_t (by decide)) (by decide) (by decide) k) ?_
  show Fin _ _ _ _ _ _ _ _ T16 (mkF m 79 #[vr a, vr b, .val .null, vr d, vi (Int32.ofNat xs.length)] [])
  refine .go (fun _ k => XS.aloadN X16.here hx rfl (hb hby d29_79) rfl rfl k) ?_
  refine .go (fun _ k => XS.iconst X16.here hx rfl (hb hby d29_80) k) ?_
  obtain ⟨T17, h17, X17, e17, W17, st17⟩ := putF X16 hx hZ hown (host := "") (Or.inl (hw _ w_25)) Via.refl e16 F1 A (Or.inr ⟨(hw _ w_26), rfl, hnm⟩) (hw _ w_11) (ty := .byte) (by decide) rfl rfl (g := (mkF m 81 #[vr a, vr b, .val .null, vr d, vi (Int32.ofNat xs.length)] [(.int (1 : Int32)), (.ref a)])) rfl rfl (hb hby d29_81)
  refine Fin.go st17 ?_
  have N17 := Fr.snoc X17 N14 na
  have O17 := O.wr W17 na
  have K17 := K0.wr W17 (Or.inl (List.mem_of_getElem? (i := 0) rfl))
  have F17_a_value := (F2.other W17 (Or.inr (slot_ne (Or.inr (hw _ w_24)) (Or.inr (hw _ w_26)) (by decide) (t := (.array .byte)) (t' := .byte) (by decide) (by decide))))
  show Fin _ _ _ _ _ _ _ _ T17 (mkF m 84 #[vr a, vr b, .val .null, vr d, vi (Int32.ofNat xs.length)] [])
  refine .go (fun _ k => XS.aloadN X17.here hx rfl (hb hby d29_84) rfl rfl k) ?_
  refine .go (fun _ k => XS.aloadN X17.here hx rfl (hb hby d29_85) rfl rfl k) ?_
  refine .go (fun _ k => XS.iconst X17.here hx rfl (hb hby d29_86) k) ?_
  refine .go (fun _ k => XS.iload X17.here hx rfl (hb hby d29_87) rfl k) ?_
  show Fin _ _ _ _ _ _ _ _ T17 (mkF m 89 #[vr a, vr b, .val .null, vr d, vi (Int32.ofNat xs.length)] [(.int (Int32.ofNat xs.length)), (.int (0 : Int32)), (.ref d), (.ref a)])
  refine .go (fun _ k => XS.iconst X17.here hx rfl (hb hby d29_89) k) ?_
  refine .go (fun _ k => XT.ishl X17.here hx rfl (hb hby d29_90) rfl k) ?_
  show Fin _ _ _ _ _ _ _ _ T17 (mkF m 91 #[vr a, vr b, .val .null, vr d, vi (Int32.ofNat xs.length)] [(.int ((Int32.ofNat xs.length) <<< ((1 : Int32) &&& 31))), (.int (0 : Int32)), (.ref d), (.ref a)])
  show Fin _ _ _ _ _ _ _ _ T17 (mkF m 91 #[vr a, vr b, .val .null, vr d, vi (Int32.ofNat xs.length)] [(.int ((Int32.ofNat xs.length) <<< ((1 : Int32) &&& 31))), (.int (0 : Int32)), (.ref d), (.ref a)])
  rw [on_2 (i := xs.length) (by omega)]
  show Fin _ _ _ _ _ _ _ _ T17 (mkF m 91 #[vr a, vr b, .val .null, vr d, vi (Int32.ofNat xs.length)] [(.int (Int32.ofNat (2 * xs.length))), (.int (0 : Int32)), (.ref d), (.ref a)])
  obtain ⟨v18, T18, L18, X18, q18, st18⟩ := callSt X17 hx hZ hown (hw _ w_174) (hw _ w_175) (hw _ w_117) (hw _ w_176) (by decide) (W := 1) (rmCR l Z a0 hw n0 h17 O17 d kd (bb1 xs N) (2 * N) (2 * xs.length) (bb1_len (by omega)) (by omega) (by omega) (VD.other W17 nda)) e17 (by decide) (by decide) (by decide) (by decide) (g := (mkF m 91 #[vr a, vr b, .val .null, vr d, vi (Int32.ofNat xs.length)] [(.int (Int32.ofNat (2 * xs.length))), (.int (0 : Int32)), (.ref d), (.ref a)])) rfl (by rw [hml]; rfl) (argsL := [(.ref d), (.int (0 : Int32)), (.int (Int32.ofNat (2 * xs.length)))]) (rest := [(.ref a)]) (lenOf pd_oABIIcAB rfl) rfl (wk rfl rfl) (hb hby d29_91)
  obtain ⟨d18, kd18, rfl, Nq18, Kq18, V18, zd18⟩ := q18
  have N18 := Fr.app N17 Nq18
  have O18 := O17.keep Kq18 all0
  have K18 := K17.trans Kq18 all0
  refine Fin.go st18 ?_
  show Fin _ _ _ _ _ _ _ _ T18 (mkF m 94 #[vr a, vr b, .val .null, vr d, vi (Int32.ofNat xs.length)] [(.ref d18), (.ref a)])
  have nzd18 : n0 ≤ d18 := Nat.le_trans (by have := O17.1; have := O17.2.1; omega) zd18
  have hzd18 : h0.size ≤ d18 := Nat.le_trans K17.1 zd18
  rw [bb1_take] at V18
  obtain ⟨T19, h19, X19, e19, W19, st19⟩ := putF X18 hx hZ hown (host := "") (Or.inl (hw _ w_23)) Via.refl (rfl : T18.heap = T18.heap) (F17_a_value.keep Kq18 nin0) ((A.wr W17).keep Kq18) (Or.inr ⟨(hw _ w_24), rfl, hnm⟩) (hw _ w_11) (ty := (.array .byte)) (by decide) rfl rfl (g := (mkF m 94 #[vr a, vr b, .val .null, vr d, vi (Int32.ofNat xs.length)] [(.ref d18), (.ref a)])) rfl rfl (hb hby d29_94)
  refine Fin.go st19 ?_
  have N19 := Fr.snoc X19 N18 na
  have O19 := O18.wr W19 na
  have K19 := K18.wr W19 (Or.inl (List.mem_of_getElem? (i := 0) rfl))
  have F19_b_value := (((G1.other W17 (Or.inl nba)).keep Kq18 nin0).other W19 (Or.inl nba))
  have F19_b_coder := (((G2.other W17 (Or.inl nba)).keep Kq18 nin0).other W19 (Or.inl nba))
  have F19_b_count := (((G3.other W17 (Or.inl nba)).keep Kq18 nin0).other W19 (Or.inl nba))
  have F19_b_maybeLatin1 := (((G4.other W17 (Or.inl nba)).keep Kq18 nin0).other W19 (Or.inl nba))
  have F19_a_coder := (((F1.same W17).keep Kq18 nin0).other W19 (Or.inr (slot_ne (Or.inr (hw _ w_26)) (Or.inr (hw _ w_24)) (by decide) (t := .byte) (t' := (.array .byte)) (by decide) (by decide))))
  have V19_d18 := (V18.other W19 (Ne.symm (Nat.ne_of_lt (Nat.lt_of_lt_of_le F17_a_value.lt zd18))))
  show Fin _ _ _ _ _ _ _ _ T19 (mkF m 97 #[vr a, vr b, .val .null, vr d, vi (Int32.ofNat xs.length)] [])
  exact Fin.leaveN X19 e19 hlk (v := none) (fun _ => rfl) (by decide) (by decide) ⟨rfl, N19, K19, (((A.wr W17).keep Kq18).wr W19), (1 : Int32), d18, kd18, F19_a_coder, ((F17_a_value.keep Kq18 nin0).same W19), Or.inr ⟨rfl, hl, V19_d18⟩, hzd18⟩ (fun fs hr => X19.returnOut hx hret (hb hby d29_97) hr)
theorem rmTV (l : Launch) (Z : State) (a0 : Array Value) (hw : HW a0 Z) (n0 : Nat) (h0 : Heap) (O : Old Z n0 h0) (a b d : Addr) (kd : ClassId) (xs : List Int32) (N : Nat) (hN : xs.length < N) (hN' : N ≤ 64) (FS : SBx Z h0 b d kd xs N) (A : Exa Z h0 a "java/lang/String") (F1 : Fld Z h0 a "java/lang/String" "coder" "B" (.int (0 : Int32))) (F2 : Fld Z h0 a "java/lang/String" "value" "[B" .null) (na : n0 ≤ a) (nba : b ≠ a) (nda : d ≠ a) (cs : Int32) (S_cs : Sta Z Z.heap "java/lang/String" "COMPACT_STRINGS" "Z" (.int cs)) (hcs : ¬ cs = 0) : Con FrameEnd l Z (⟨"java/lang/String", "<init>", "(Ljava/lang/AbstractStringBuilder;Ljava/lang/Void;)V"⟩ : MethodName) jdk_42_method_150_code 5 none ({ frames := 3, cells := 1, slots := 256, locals := 91 } : Room) #[(.ref a), (.ref b), .null] h0 (fun v h L => v = none ∧ Fr n0 L ∧ Keep h0 h [a] ∧ Exa Z h a "java/lang/String" ∧ ∃ co d2 k2, Fld Z h a "java/lang/String" "coder" "B" (.int co) ∧ Fld Z h a "java/lang/String" "value" "[B" (.ref d2) ∧ BX Z h d2 k2 co xs ∧ h0.size ≤ d2) := by
  obtain ⟨cb, B, G1, G2, G3, G4, hV⟩ := FS
  rcases hV with ⟨rfl, hl, VD⟩ | ⟨rfl, hl, VD⟩
  · exact rmTV0 l Z a0 hw n0 h0 O a b d kd xs N hN (by omega) hl B G1 G2 G3 G4 VD A F1 F2 na nba nda cs S_cs hcs
  · exact rmTV1 l Z a0 hw n0 h0 O a b d kd xs N hN (by omega) hl B G1 G2 G3 G4 VD A F1 F2 na nba nda cs S_cs hcs
theorem rmTI (l : Launch) (Z : State) (a0 : Array Value) (hw : HW a0 Z) (n0 : Nat) (h0 : Heap) (O : Old Z n0 h0) (a b d : Addr) (kd : ClassId) (xs : List Int32) (N : Nat) (hN : xs.length < N) (hN' : N ≤ 64) (FS : SBx Z h0 b d kd xs N) (A : Exa Z h0 a "java/lang/String") (F1 : Fld Z h0 a "java/lang/String" "coder" "B" (.int (0 : Int32))) (F2 : Fld Z h0 a "java/lang/String" "value" "[B" .null) (na : n0 ≤ a) (nba : b ≠ a) (nda : d ≠ a) (cs : Int32) (S_cs : Sta Z Z.heap "java/lang/String" "COMPACT_STRINGS" "Z" (.int cs)) (hcs : ¬ cs = 0) :
    ConW FrameEnd l Z [] (⟨"java/lang/String", "<init>", "(Ljava/lang/StringBuilder;)V"⟩ : MethodName) jdk_42_method_53_code 2 none ({ frames := 4, cells := 1, slots := 256, locals := 107 } : Room) #[(.ref a), (.ref b)] h0 (fun v h L => v = none ∧ Fr n0 L ∧ Keep h0 h [a] ∧ Exa Z h a "java/lang/String" ∧ ∃ co d2 k2, Fld Z h a "java/lang/String" "coder" "B" (.int co) ∧ Fld Z h a "java/lang/String" "value" "[B" (.ref d2) ∧ BX Z h d2 k2 co xs ∧ h0.size ≤ d2) := by
  refine conOf (plainFor_of_name pn_java_lang_String) ?_
  intro p e s m below mth cc s₁ X0 hx hby hml hown hnm hret hlk hZ e0
  have N0 := Fr.nil n0
  have K0 := Keep.refl h0 ([a] : List Addr)
  refine Fin.came (castTop (t := _) (by first | (simp [entryFrame, mkF, argsToLocals, Value.category]; done) | rfl) (Steps.refl _) : Steps p.tables e below (s₁.setTop (entryFrame m #[(.ref a), (.ref b)] 2)) (s₁.setTop (mkF m 0 #[vr a, vr b] []))) ?_
  refine .go (fun _ k => XS.aloadN X0.here hx rfl (hb hby d28_0) rfl rfl k) ?_
  refine .go (fun _ k => XS.aloadN X0.here hx rfl (hb hby d28_1) rfl rfl k) ?_
  refine .go (fun _ k => XS.aconstNull X0.here hx rfl (hb hby d28_2) k) ?_
  obtain ⟨v11, T11, L11, X11, q11, st11⟩ := callCt X0 hx hZ (y := (⟨"java/lang/String", "<init>", "(Ljava/lang/AbstractStringBuilder;Ljava/lang/Void;)V"⟩ : MethodName)) rfl hown (hw _ w_153) (hw _ w_154) (hw _ w_3) (hw _ w_155) (by decide) (W := 0) (rmTV l Z a0 hw n0 h0 O a b d kd xs N hN hN' FS A F1 F2 na nba nda cs S_cs hcs) e0 (by decide) (by decide) (by decide) (by decide) (g := (mkF m 3 #[vr a, vr b] [.null, (.ref b), (.ref a)])) rfl (by rw [hml]; rfl) (a := a) (argsL := [(.ref b), .null]) (rest := []) (lenOf pd_oLjava_lang_AbstractStringBuilder_Ljava_lang_Void_cV rfl) rfl (wk rfl rfl) (hb hby d28_3)
  obtain ⟨rfl, Nq11, Kq11, rest11⟩ := q11
  have N11 := Fr.app N0 Nq11
  have O11 := O.keep Kq11 (allS na all0)
  have K11 := K0.trans Kq11 (allS (Or.inl (List.mem_of_getElem? (i := 0) rfl)) all0)
  refine Fin.go st11 ?_
  show Fin _ _ _ _ _ _ _ _ T11 (mkF m 6 #[vr a, vr b] [])
  exact Fin.leaveN X11 (rfl : T11.heap = T11.heap) hlk (v := none) (fun _ => rfl) (by decide) (by decide) ⟨rfl, N11, K11, rest11⟩ (fun fs hr => X11.returnOut hx hret (hb hby d28_6) hr)
theorem rmTS (l : Launch) (Z : State) (a0 : Array Value) (hw : HW a0 Z) (n0 : Nat) (h0 : Heap) (O : Old Z n0 h0) (b d : Addr) (kd : ClassId) (xs : List Int32) (N : Nat) (hN : xs.length < N) (hN' : N ≤ 64) (FS : SBx Z h0 b d kd xs N) (cs : Int32) (S_cs : Sta Z Z.heap "java/lang/String" "COMPACT_STRINGS" "Z" (.int cs)) (hcs : ¬ cs = 0) :
    ConW FrameEnd l Z [] (⟨"java/lang/StringBuilder", "toString", "()Ljava/lang/String;"⟩ : MethodName) jdk_67_method_42_code 1 (some (.object "java/lang/String")) ({ frames := 5, cells := 2, slots := 260, locals := 121 } : Room) #[(.ref b)] h0 (fun v h L => ∃ a co d2 k2, v = some (.ref a) ∧ Fr n0 L ∧ Keep h0 h [] ∧ h0.size ≤ a ∧ h0.size ≤ d2 ∧ Exa Z h a "java/lang/String" ∧ Fld Z h a "java/lang/String" "coder" "B" (.int co) ∧ Fld Z h a "java/lang/String" "value" "[B" (.ref d2) ∧ BX Z h d2 k2 co xs) := by
  refine conOf (plainFor_of_name pn_java_lang_StringBuilder) ?_
  intro p e s m below mth cc s₁ X0 hx hby hml hown hnm hret hlk hZ e0
  have N0 := Fr.nil n0
  have K0 := Keep.refl h0 ([] : List Addr)
  refine Fin.came (castTop (t := _) (by first | (simp [entryFrame, mkF, argsToLocals, Value.category]; done) | rfl) (Steps.refl _) : Steps p.tables e below (s₁.setTop (entryFrame m #[(.ref b)] 1)) (s₁.setTop (mkF m 0 #[vr b] []))) ?_
  obtain ⟨T11, h11, X11, e11, E11, A11, D11, U11, st11⟩ := newO X0 hx hZ hown (hw _ w_149) (hw _ w_11) (hw _ w_3) e0 (g := (mkF m 0 #[vr b] [])) rfl (hb hby d27_0) (by decide) (by decide)
  obtain ⟨a11, g11⟩ : ∃ z, z = h0.size := ⟨_, rfl⟩
  rw [← g11] at A11 D11 U11 st11
  refine Fin.go st11 ?_
  have O11 := O.ext E11
  have K11 := K0.ext E11
  have n11 : n0 ≤ a11 := by have := O.2.1; have := O.1; omega
  have z11 : h0.size ≤ a11 := by have := K0.1; omega
  have F11_value : Fld Z h11 a11 "java/lang/String" "value" "[B" .null := D11 (Or.inr (hw _ w_24)) (ty := (.array .byte)) (by decide)
  have F11_coder : Fld Z h11 a11 "java/lang/String" "coder" "B" (.int (0 : Int32)) := D11 (Or.inr (hw _ w_26)) (ty := .byte) (by decide)
  show Fin _ _ _ _ _ _ _ _ T11 (mkF m 3 #[vr b] [(.ref a11)])
  refine .go (fun _ k => XS.dup X11.here hx rfl (hb hby d27_3) rfl rfl k) ?_
  refine .go (fun _ k => XS.aloadN X11.here hx rfl (hb hby d27_4) rfl rfl k) ?_
  obtain ⟨v12, T12, L12, X12, q12, st12⟩ := callCt X11 hx hZ (y := (⟨"java/lang/String", "<init>", "(Ljava/lang/StringBuilder;)V"⟩ : MethodName)) rfl hown (hw _ w_150) (hw _ w_151) (hw _ w_3) (hw _ w_152) (by decide) (W := 1) (rmTI l Z a0 hw n0 h11 O11 a11 b d kd xs N hN hN' (FS.ext E11) A11 F11_coder F11_value n11 (Nat.ne_of_lt (Nat.lt_of_lt_of_eq FS.exa.lt g11.symm)) (Nat.ne_of_lt (Nat.lt_of_lt_of_eq FS.alt g11.symm)) cs S_cs hcs) e11 (by decide) (by decide) (by decide) (by decide) (g := (mkF m 5 #[vr b] [(.ref b), (.ref a11), (.ref a11)])) rfl (by rw [hml]; rfl) (a := a11) (argsL := [(.ref b)]) (rest := [(.ref a11)]) (lenOf pd_oLjava_lang_StringBuilder_cV rfl) rfl (wk rfl rfl) (hb hby d27_5)
  obtain ⟨rfl, Nq12, Kq12, A12, co12, d12, kd12, C12, F12, V12, zd12⟩ := q12
  have N12 := Fr.app N0 Nq12
  have O12 := O11.keep Kq12 (allS n11 all0)
  have K12 := K11.trans Kq12 (allS (Or.inr z11) all0)
  refine Fin.go st12 ?_
  show Fin _ _ _ _ _ _ _ _ T12 (mkF m 8 #[vr b] [(.ref a11)])
  exact Fin.leaveN X12 (rfl : T12.heap = T12.heap) hlk (v := some (.ref a11)) (nvS hret) (by decide) (by decide) ⟨a11, co12, d12, kd12, rfl, N12, K12, z11, (by have := zd12; have := E11.1; omega), A12, C12, F12, V12⟩ (fun fs hr => retOut X12 hx hret rfl (Or.inr (Or.inr (Or.inr (Or.inr ⟨rfl, rfl, rfl⟩)))) (hb hby d27_8) hr)
theorem rmCanY (l : Launch) (Z : State) (a0 : Array Value) (hw : HW a0 Z) (n0 : Nat) (h0 : Heap) (O : Old Z n0 h0) (x : Int32) (hp : ¬ (255 : Int32) < x) :
    ConW FrameEnd l Z [] (⟨"java/lang/StringLatin1", "canEncode", "(C)Z"⟩ : MethodName) jdk_43_method_3_code 1 (some .boolean) ({ frames := 0, cells := 0, slots := 0, locals := 0 } : Room) #[(.int x)] h0 (Pure h0 (some (.int (1 : Int32)))) := by
  refine conOf (plainFor_of_name pn_java_lang_StringLatin1) ?_
  intro p e s m below mth cc s₁ X0 hx hby hml hown hnm hret hlk hZ e0
  have N0 := Fr.nil n0
  refine Fin.came (castTop (t := _) (by first | (simp [entryFrame, mkF, argsToLocals, Value.category]; done) | rfl) (Steps.refl _) : Steps p.tables e below (s₁.setTop (entryFrame m #[(.int x)] 1)) (s₁.setTop (mkF m 0 #[vi x] []))) ?_
  refine .go (fun _ k => XS.iloadN X0.here hx rfl (hb hby d2_0) rfl k) ?_
  refine .go (fun _ k => XS.sipush X0.here hx rfl (hb hby d2_1) k) ?_
  refine .go (fun _ k => XS.icmpNo X0.here hx rfl (hb hby d2_4) rfl (XT.ii_gt_f hp) k) ?_
  show Fin _ _ _ _ _ _ _ _ s₁ (mkF m 7 #[vi x] [])
  refine .go (fun _ k => XS.iconst X0.here hx rfl (hb hby d2_7) k) ?_
  refine .go (fun _ k => XS.goto X0.here hx rfl (pc0 := 8) (pc' := 12) rfl (hb hby d2_8) (by decide) (by decide) k) ?_
  exact Fin.leaveN X0 e0 hlk (v := some (.int (nar .boolean (1 : Int32)))) (nvS hret) (by decide) (by decide) ⟨by decide +kernel, rfl, rfl⟩ (fun fs hr => retN X0 hx (t := .boolean) hret (by simp) (hb hby d2_12) hr)
theorem rmCanN (l : Launch) (Z : State) (a0 : Array Value) (hw : HW a0 Z) (n0 : Nat) (h0 : Heap) (O : Old Z n0 h0) (x : Int32) (hp : (255 : Int32) < x) :
    ConW FrameEnd l Z [] (⟨"java/lang/StringLatin1", "canEncode", "(C)Z"⟩ : MethodName) jdk_43_method_3_code 1 (some .boolean) ({ frames := 0, cells := 0, slots := 0, locals := 0 } : Room) #[(.int x)] h0 (Pure h0 (some (.int (0 : Int32)))) := by
  refine conOf (plainFor_of_name pn_java_lang_StringLatin1) ?_
  intro p e s m below mth cc s₁ X0 hx hby hml hown hnm hret hlk hZ e0
  have N0 := Fr.nil n0
  refine Fin.came (castTop (t := _) (by first | (simp [entryFrame, mkF, argsToLocals, Value.category]; done) | rfl) (Steps.refl _) : Steps p.tables e below (s₁.setTop (entryFrame m #[(.int x)] 1)) (s₁.setTop (mkF m 0 #[vi x] []))) ?_
  refine .go (fun _ k => XS.iloadN X0.here hx rfl (hb hby d2_0) rfl k) ?_
  refine .go (fun _ k => XS.sipush X0.here hx rfl (hb hby d2_1) k) ?_
  refine .go (fun _ k => XS.icmpYes X0.here hx rfl (pc0 := 4) (pc' := 11) rfl (hb hby d2_4) rfl (XT.ii_gt_t hp) (by decide) (by decide) k) ?_
  show Fin _ _ _ _ _ _ _ _ s₁ (mkF m 11 #[vi x] [])
  refine .go (fun _ k => XS.iconst X0.here hx rfl (hb hby d2_11) k) ?_
  exact Fin.leaveN X0 e0 hlk (v := some (.int (nar .boolean (0 : Int32)))) (nvS hret) (by decide) (by decide) ⟨by decide +kernel, rfl, rfl⟩ (fun fs hr => retN X0 hx (t := .boolean) hret (by simp) (hb hby d2_12) hr)
theorem rmBB0 (l : Launch) (Z : State) (a0 : Array Value) (hw : HW a0 Z) (n0 : Nat) (h0 : Heap) (O : Old Z n0 h0) (a d : Addr) (A : Exa Z h0 a "java/lang/String") (F1 : Fld Z h0 a "java/lang/String" "coder" "B" (.int (0 : Int32))) (F2 : Fld Z h0 a "java/lang/String" "value" "[B" .null) (na : n0 ≤ a) :
    ConW FrameEnd l Z [] (⟨"java/lang/String", "<init>", "([BB)V"⟩ : MethodName) jdk_42_method_151_code 3 none ({ frames := 1, cells := 0, slots := 0, locals := 12 } : Room) #[(.ref a), (.ref d), (.int (0 : Int32))] h0 (fun v h L => v = none ∧ Fr n0 L ∧ Keep h0 h [a] ∧ Exa Z h a "java/lang/String" ∧ Fld Z h a "java/lang/String" "coder" "B" (.int (0 : Int32)) ∧ Fld Z h a "java/lang/String" "value" "[B" (.ref d)) := by
  refine conOf (plainFor_of_name pn_java_lang_String) ?_
  intro p e s m below mth cc s₁ X0 hx hby hml hown hnm hret hlk hZ e0
  have N0 := Fr.nil n0
  have K0 := Keep.refl h0 ([a] : List Addr)
  refine Fin.came (castTop (t := _) (by first | (simp [entryFrame, mkF, argsToLocals, Value.category]; done) | rfl) (Steps.refl _) : Steps p.tables e below (s₁.setTop (entryFrame m #[(.ref a), (.ref d), (.int (0 : Int32))] 3)) (s₁.setTop (mkF m 0 #[vr a, vr d, vi (0 : Int32)] []))) ?_
  refine .go (fun _ k => XS.aloadN X0.here hx rfl (hb hby d4_0) rfl rfl k) ?_
  obtain ⟨T11, X11, e11, st11⟩ := initO X0 hx hZ hown (hw _ w_20) (hw _ w_21) (hw _ w_22) e0 (g := (mkF m 1 #[vr a, vr d, vi (0 : Int32)] [(.ref a)])) rfl (by rw [hml]; rfl) rfl (hb hby d4_1) (by decide) (W := 0) (wk rfl rfl) (by decide)
  refine Fin.go st11 ?_
  show Fin _ _ _ _ _ _ _ _ T11 (mkF m 4 #[vr a, vr d, vi (0 : Int32)] [])
  refine .go (fun _ k => XS.aloadN X11.here hx rfl (hb hby d4_4) rfl rfl k) ?_
  refine .go (fun _ k => XS.aloadN X11.here hx rfl (hb hby d4_5) rfl rfl k) ?_
  obtain ⟨T12, h12, X12, e12, W12, st12⟩ := putF X11 hx hZ hown (host := "") (Or.inl (hw _ w_23)) Via.refl e11 F2 A (Or.inr ⟨(hw _ w_24), rfl, hnm⟩) (hw _ w_11) (ty := (.array .byte)) (by decide) rfl rfl (g := (mkF m 6 #[vr a, vr d, vi (0 : Int32)] [(.ref d), (.ref a)])) rfl rfl (hb hby d4_6)
  refine Fin.go st12 ?_
  have N12 := Fr.snoc X12 N0 na
  have O12 := O.wr W12 na
  have K12 := K0.wr W12 (Or.inl (List.mem_of_getElem? (i := 0) rfl))
  have F12_a_coder := (F1.other W12 (Or.inr (slot_ne (Or.inr (hw _ w_26)) (Or.inr (hw _ w_24)) (by decide) (t := .byte) (t' := (.array .byte)) (by decide) (by decide))))
  show Fin _ _ _ _ _ _ _ _ T12 (mkF m 9 #[vr a, vr d, vi (0 : Int32)] [])
  refine .go (fun _ k => XS.aloadN X12.here hx rfl (hb hby d4_9) rfl rfl k) ?_
  refine .go (fun _ k => XS.iloadN X12.here hx rfl (hb hby d4_10) rfl k) ?_
  obtain ⟨T13, h13, X13, e13, W13, st13⟩ := putF X12 hx hZ hown (host := "") (Or.inl (hw _ w_25)) Via.refl e12 F12_a_coder (A.wr W12) (Or.inr ⟨(hw _ w_26), rfl, hnm⟩) (hw _ w_11) (ty := .byte) (by decide) rfl rfl (g := (mkF m 11 #[vr a, vr d, vi (0 : Int32)] [(.int (0 : Int32)), (.ref a)])) rfl rfl (hb hby d4_11)
  refine Fin.go st13 ?_
  have N13 := Fr.snoc X13 N12 na
  have O13 := O12.wr W13 na
  have K13 := K12.wr W13 (Or.inl (List.mem_of_getElem? (i := 0) rfl))
  have F13_a_value := ((F2.same W12).other W13 (Or.inr (slot_ne (Or.inr (hw _ w_24)) (Or.inr (hw _ w_26)) (by decide) (t := (.array .byte)) (t' := .byte) (by decide) (by decide))))
  show Fin _ _ _ _ _ _ _ _ T13 (mkF m 14 #[vr a, vr d, vi (0 : Int32)] [])
  exact Fin.leaveN X13 e13 hlk (v := none) (fun _ => rfl) (by decide) (by decide) ⟨rfl, N13, K13, ((A.wr W12).wr W13), (F12_a_coder.same W13), F13_a_value⟩ (fun fs hr => X13.returnOut hx hret (hb hby d4_14) hr)
theorem rmBB1 (l : Launch) (Z : State) (a0 : Array Value) (hw : HW a0 Z) (n0 : Nat) (h0 : Heap) (O : Old Z n0 h0) (a d : Addr) (A : Exa Z h0 a "java/lang/String") (F1 : Fld Z h0 a "java/lang/String" "coder" "B" (.int (0 : Int32))) (F2 : Fld Z h0 a "java/lang/String" "value" "[B" .null) (na : n0 ≤ a) :
    ConW FrameEnd l Z [] (⟨"java/lang/String", "<init>", "([BB)V"⟩ : MethodName) jdk_42_method_151_code 3 none ({ frames := 1, cells := 0, slots := 0, locals := 12 } : Room) #[(.ref a), (.ref d), (.int (1 : Int32))] h0 (fun v h L => v = none ∧ Fr n0 L ∧ Keep h0 h [a] ∧ Exa Z h a "java/lang/String" ∧ Fld Z h a "java/lang/String" "coder" "B" (.int (1 : Int32)) ∧ Fld Z h a "java/lang/String" "value" "[B" (.ref d)) := by
  refine conOf (plainFor_of_name pn_java_lang_String) ?_
  intro p e s m below mth cc s₁ X0 hx hby hml hown hnm hret hlk hZ e0
  have N0 := Fr.nil n0
  have K0 := Keep.refl h0 ([a] : List Addr)
  refine Fin.came (castTop (t := _) (by first | (simp [entryFrame, mkF, argsToLocals, Value.category]; done) | rfl) (Steps.refl _) : Steps p.tables e below (s₁.setTop (entryFrame m #[(.ref a), (.ref d), (.int (1 : Int32))] 3)) (s₁.setTop (mkF m 0 #[vr a, vr d, vi (1 : Int32)] []))) ?_
  refine .go (fun _ k => XS.aloadN X0.here hx rfl (hb hby d4_0) rfl rfl k) ?_
  obtain ⟨T11, X11, e11, st11⟩ := initO X0 hx hZ hown (hw _ w_20) (hw _ w_21) (hw _ w_22) e0 (g := (mkF m 1 #[vr a, vr d, vi (1 : Int32)] [(.ref a)])) rfl (by rw [hml]; rfl) rfl (hb hby d4_1) (by decide) (W := 0) (wk rfl rfl) (by decide)
  refine Fin.go st11 ?_
  show Fin _ _ _ _ _ _ _ _ T11 (mkF m 4 #[vr a, vr d, vi (1 : Int32)] [])
  refine .go (fun _ k => XS.aloadN X11.here hx rfl (hb hby d4_4) rfl rfl k) ?_
  refine .go (fun _ k => XS.aloadN X11.here hx rfl (hb hby d4_5) rfl rfl k) ?_
  obtain ⟨T12, h12, X12, e12, W12, st12⟩ := putF X11 hx hZ hown (host := "") (Or.inl (hw _ w_23)) Via.refl e11 F2 A (Or.inr ⟨(hw _ w_24), rfl, hnm⟩) (hw _ w_11) (ty := (.array .byte)) (by decide) rfl rfl (g := (mkF m 6 #[vr a, vr d, vi (1 : Int32)] [(.ref d), (.ref a)])) rfl rfl (hb hby d4_6)
  refine Fin.go st12 ?_
  have N12 := Fr.snoc X12 N0 na
  have O12 := O.wr W12 na
  have K12 := K0.wr W12 (Or.inl (List.mem_of_getElem? (i := 0) rfl))
  have F12_a_coder := (F1.other W12 (Or.inr (slot_ne (Or.inr (hw _ w_26)) (Or.inr (hw _ w_24)) (by decide) (t := .byte) (t' := (.array .byte)) (by decide) (by decide))))
  show Fin _ _ _ _ _ _ _ _ T12 (mkF m 9 #[vr a, vr d, vi (1 : Int32)] [])
  refine .go (fun _ k => XS.aloadN X12.here hx rfl (hb hby d4_9) rfl rfl k) ?_
  refine .go (fun _ k => XS.iloadN X12.here hx rfl (hb hby d4_10) rfl k) ?_
  obtain ⟨T13, h13, X13, e13, W13, st13⟩ := putF X12 hx hZ hown (host := "") (Or.inl (hw _ w_25)) Via.refl e12 F12_a_coder (A.wr W12) (Or.inr ⟨(hw _ w_26), rfl, hnm⟩) (hw _ w_11) (ty := .byte) (by decide) rfl rfl (g := (mkF m 11 #[vr a, vr d, vi (1 : Int32)] [(.int (1 : Int32)), (.ref a)])) rfl rfl (hb hby d4_11)
  refine Fin.go st13 ?_
  have N13 := Fr.snoc X13 N12 na
  have O13 := O12.wr W13 na
  have K13 := K12.wr W13 (Or.inl (List.mem_of_getElem? (i := 0) rfl))
  have F13_a_value := ((F2.same W12).other W13 (Or.inr (slot_ne (Or.inr (hw _ w_24)) (Or.inr (hw _ w_26)) (by decide) (t := (.array .byte)) (t' := .byte) (by decide) (by decide))))
  show Fin _ _ _ _ _ _ _ _ T13 (mkF m 14 #[vr a, vr d, vi (1 : Int32)] [])
  exact Fin.leaveN X13 e13 hlk (v := none) (fun _ => rfl) (by decide) (by decide) ⟨rfl, N13, K13, ((A.wr W12).wr W13), (F12_a_coder.same W13), F13_a_value⟩ (fun fs hr => X13.returnOut hx hret (hb hby d4_14) hr)
theorem rmTb0 (l : Launch) (Z : State) (a0 : Array Value) (hw : HW a0 Z) (n0 : Nat) (h0 : Heap) (O : Old Z n0 h0) (x : Int32) :
    ConW FrameEnd l Z [] (⟨"java/lang/StringLatin1", "toBytes", "(C)[B"⟩ : MethodName) jdk_43_method_46_code 1 (some (.array .byte)) ({ frames := 0, cells := 1, slots := 1, locals := 0 } : Room) #[(.int x)] h0 (fun v h L => ∃ d kd, v = some (.ref d) ∧ Fr n0 L ∧ Keep h0 h [] ∧ Arv Z h d kd .byte (Int32.ofNat [x].length) (ivL ([x].map b8f)) (.int (0 : Int32)) ∧ h0.size ≤ d) := by
  refine conOf (plainFor_of_name pn_java_lang_StringLatin1) ?_
  intro p e s m below mth cc s₁ X0 hx hby hml hown hnm hret hlk hZ e0
  have N0 := Fr.nil n0
  have K0 := Keep.refl h0 ([] : List Addr)
  refine Fin.came (castTop (t := _) (by first | (simp [entryFrame, mkF, argsToLocals, Value.category]; done) | rfl) (Steps.refl _) : Steps p.tables e below (s₁.setTop (entryFrame m #[(.int x)] 1)) (s₁.setTop (mkF m 0 #[vi x] []))) ?_
  refine .go (fun _ k => XS.iconst X0.here hx rfl (hb hby d3_0) k) ?_
  obtain ⟨T11, h11, k11, X11, e11, E11, A11, st11⟩ := newP X0 hx hZ (aty := .byte) (hw _ w_15) e0 (g := (mkF m 1 #[vi x] [(.int (1 : Int32))])) rfl (hb hby d3_1) rfl (by decide : ¬ ((1 : Int32) < (0 : Int32))) (cap := 1) (by decide) (by decide) (by decide) (by decide)
  obtain ⟨a11, g11⟩ : ∃ z, z = h0.size := ⟨_, rfl⟩
  rw [← g11] at A11 st11
  refine Fin.go st11 ?_
  have O11 := O.ext E11
  have K11 := K0.ext E11
  have n11 : n0 ≤ a11 := by have := O.2.1; have := O.1; omega
  have z11 : h0.size ≤ a11 := by have := K0.1; omega
  have V11 : Arv Z h11 a11 k11 .byte (1 : Int32) [(.int (0 : Int32))] (.int (0 : Int32)) := (Arv.new A11 (by decide)).pad (pad_rep [] (.int (0 : Int32)) 1)
  show Fin _ _ _ _ _ _ _ _ T11 (mkF m 3 #[vi x] [(.ref a11)])
  refine .go (fun _ k => XS.dup X11.here hx rfl (hb hby d3_3) rfl rfl k) ?_
  refine .go (fun _ k => XS.iconst X11.here hx rfl (hb hby d3_4) k) ?_
  refine .go (fun _ k => XS.iloadN X11.here hx rfl (hb hby d3_5) rfl k) ?_
  refine .go (fun _ k => XT.i2b X11.here hx rfl (hb hby d3_6) rfl k) ?_
  show Fin _ _ _ _ _ _ _ _ T11 (mkF m 7 #[vi x] [(.int ((Int32.toInt8 x).toInt32)), (.int (0 : Int32)), (.ref a11), (.ref a11)])
  obtain ⟨cz12, B12, q12, S12, M12, H12, G12⟩ := id V11
  obtain ⟨T12, h12, X12, e12, W12, st12⟩ := stB X11 hx hZ e11 B12 (j := (0 : Int32)) (inb_of S12 ⟨(by decide : ¬ ((0 : Int32) < (0 : Int32))), (by decide : (0 : Int32) < (1 : Int32))⟩) (g := (mkF m 7 #[vi x] [(.int ((Int32.toInt8 x).toInt32)), (.int (0 : Int32)), (.ref a11), (.ref a11)])) rfl rfl (hb hby d3_7)
  refine Fin.go st12 ?_
  have V12 : Arv Z h12 a11 k11 .byte (1 : Int32) [(.int ((Int32.toInt8 x).toInt32))] (.int (0 : Int32)) := (by have q : Arv Z h12 a11 k11 .byte (1 : Int32) [(.int (nar .byte ((Int32.toInt8 x).toInt32)))] (.int (0 : Int32)) := (Arv.set B12 q12 S12 M12 H12 G12 (fits_nar_byte _) W12 0 rfl (Nat.le_of_ble_eq_true rfl)); rwa [nar_b8] at q)
  have N12 := Fr.snoc X12 N0 n11
  have O12 := O11.wr W12 n11
  have K12 := K11.wr W12 (Or.inr z11)
  show Fin _ _ _ _ _ _ _ _ T12 (mkF m 8 #[vi x] [(.ref a11)])
  exact Fin.leaveN X12 e12 hlk (v := some (.ref a11)) (nvS hret) (by decide) (by decide) ⟨a11, k11, rfl, N12, K12, V12, z11⟩ (fun fs hr => retOut X12 hx hret rfl (Or.inr (Or.inr (Or.inr (Or.inr ⟨rfl, rfl, rfl⟩)))) (hb hby d3_8) hr)
theorem rmTb1 (l : Launch) (Z : State) (a0 : Array Value) (hw : HW a0 Z) (n0 : Nat) (h0 : Heap) (O : Old Z n0 h0) (x : Int32) (S_as : SAs Z) (S_hb : SHb Z) (S_lb : SLb Z) :
    ConW FrameEnd l Z [] (⟨"java/lang/StringUTF16", "toBytes", "(C)[B"⟩ : MethodName) jdk_52_method_24_code 2 (some (.array .byte)) ({ frames := 1, cells := 1, slots := 2, locals := 14 } : Room) #[(.int x)] h0 (fun v h L => ∃ d kd, v = some (.ref d) ∧ Fr n0 L ∧ Keep h0 h [] ∧ Arv Z h d kd .byte (Int32.ofNat (2 * [x].length)) (ivL (u8 [x])) (.int (0 : Int32)) ∧ h0.size ≤ d) := by
  refine conOf (plainFor_of_name pn_java_lang_StringUTF16) ?_
  intro p e s m below mth cc s₁ X0 hx hby hml hown hnm hret hlk hZ e0
  have N0 := Fr.nil n0
  have K0 := Keep.refl h0 ([] : List Addr)
  refine Fin.came (castTop (t := _) (by first | (simp [entryFrame, mkF, argsToLocals, Value.category]; done) | rfl) (Steps.refl _) : Steps p.tables e below (s₁.setTop (entryFrame m #[(.int x)] 2)) (s₁.setTop (mkF m 0 #[vi x, .unset] []))) ?_
  refine .go (fun _ k => XS.iconst X0.here hx rfl (hb hby d58_0) k) ?_
  obtain ⟨T11, h11, k11, X11, e11, E11, A11, st11⟩ := newP X0 hx hZ (aty := .byte) (hw _ w_15) e0 (g := (mkF m 1 #[vi x, .unset] [(.int (2 : Int32))])) rfl (hb hby d58_1) rfl (by decide : ¬ ((2 : Int32) < (0 : Int32))) (cap := 2) (by decide) (by decide) (by decide) (by decide)
  obtain ⟨a11, g11⟩ : ∃ z, z = h0.size := ⟨_, rfl⟩
  rw [← g11] at A11 st11
  refine Fin.go st11 ?_
  have O11 := O.ext E11
  have K11 := K0.ext E11
  have n11 : n0 ≤ a11 := by have := O.2.1; have := O.1; omega
  have z11 : h0.size ≤ a11 := by have := K0.1; omega
  have V11 : Arv Z h11 a11 k11 .byte (2 : Int32) [(.int (0 : Int32)), (.int (0 : Int32))] (.int (0 : Int32)) := (Arv.new A11 (by decide)).pad (pad_rep [] (.int (0 : Int32)) 2)
  show Fin _ _ _ _ _ _ _ _ T11 (mkF m 3 #[vi x, .unset] [(.ref a11)])
  refine .go (fun _ k => XS.astoreN X11.here hx rfl (hb hby d58_3) rfl rfl (l' := #[vi x, vr a11]) rfl k) ?_
  refine .go (fun _ k => XS.aloadN X11.here hx rfl (hb hby d58_4) rfl rfl k) ?_
  refine .go (fun _ k => XS.iconst X11.here hx rfl (hb hby d58_5) k) ?_
  refine .go (fun _ k => XS.iloadN X11.here hx rfl (hb hby d58_6) rfl k) ?_
  show Fin _ _ _ _ _ _ _ _ T11 (mkF m 7 #[vi x, vr a11] [(.int x), (.int (0 : Int32)), (.ref a11)])
  obtain ⟨v12, T12, L12, X12, q12, st12⟩ := callSt X11 hx hZ hown (hw _ w_256) (hw _ w_257) (hw _ w_37) (hw _ w_258) (by decide) (W := 0) (rmPutG l Z a0 hw n0 h11 O11 a11 k11 x [0, 0] 0 2 rfl (by decide) (by decide) V11 n11 S_as S_hb S_lb) e11 (by decide) (by decide) (by decide) (by decide) (g := (mkF m 7 #[vi x, vr a11] [(.int x), (.int (0 : Int32)), (.ref a11)])) rfl (by rw [hml]; rfl) (argsL := [(.ref a11), (.int (0 : Int32)), (.int x)]) (rest := []) (lenOf pd_oABIIcV rfl) rfl (wk rfl rfl) (hb hby d58_7)
  obtain ⟨rfl, Nq12, Kq12, V12⟩ := q12
  have N12 := Fr.app N0 Nq12
  have O12 := O11.keep Kq12 (allS n11 all0)
  have K12 := K11.trans Kq12 (allS (Or.inr z11) all0)
  refine Fin.go st12 ?_
  show Fin _ _ _ _ _ _ _ _ T12 (mkF m 10 #[vi x, vr a11] [])
  refine .go (fun _ k => XS.aloadN X12.here hx rfl (hb hby d58_10) rfl rfl k) ?_
  exact Fin.leaveN X12 (rfl : T12.heap = T12.heap) hlk (v := some (.ref a11)) (nvS hret) (by decide) (by decide) ⟨a11, k11, rfl, N12, K12, V12, z11⟩ (fun fs hr => retOut X12 hx hret rfl (Or.inr (Or.inr (Or.inr (Or.inr ⟨rfl, rfl, rfl⟩)))) (hb hby d58_11) hr)
theorem rmVo0 (l : Launch) (Z : State) (a0 : Array Value) (hw : HW a0 Z) (n0 : Nat) (h0 : Heap) (O : Old Z n0 h0) (x : Int32) (hp : ¬ (255 : Int32) < x) (cs : Int32) (S_cs : Sta Z Z.heap "java/lang/String" "COMPACT_STRINGS" "Z" (.int cs)) (hcs : ¬ cs = 0) (S_as : SAs Z) (S_hb : SHb Z) (S_lb : SLb Z) :
    ConW FrameEnd l Z [] (⟨"java/lang/String", "valueOf", "(C)Ljava/lang/String;"⟩ : MethodName) jdk_42_method_139_code 1 (some (.object "java/lang/String")) ({ frames := 2, cells := 2, slots := 6, locals := 29 } : Room) #[(.int x)] h0 (fun v h L => ∃ a co, v = some (.ref a) ∧ Fr n0 L ∧ Keep h0 h [] ∧ SX Z h a co [x] h.size) := by
  refine conOf (plainFor_of_name pn_java_lang_String) ?_
  intro p e s m below mth cc s₁ X0 hx hby hml hown hnm hret hlk hZ e0
  have N0 := Fr.nil n0
  have K0 := Keep.refl h0 ([] : List Addr)
  refine Fin.came (castTop (t := _) (by first | (simp [entryFrame, mkF, argsToLocals, Value.category]; done) | rfl) (Steps.refl _) : Steps p.tables e below (s₁.setTop (entryFrame m #[(.int x)] 1)) (s₁.setTop (mkF m 0 #[vi x] []))) ?_
  obtain ⟨T11, X11, e11, st11⟩ := getS2 X0 hx hZ hown (host := "") (Or.inl (hw _ w_5)) Via.refl e0 (S_cs.ext O.2) (g := (mkF m 0 #[vi x] [])) rfl (hb hby d1_0)
  refine Fin.go st11 ?_
  show Fin _ _ _ _ _ _ _ _ T11 (mkF m 3 #[vi x] [(.int cs)])
  refine .go (fun _ k => XS.ifNo X11.here hx rfl (hb hby d1_3) rfl (XT.i0_eq_f hcs) k) ?_
  show Fin _ _ _ _ _ _ _ _ T11 (mkF m 6 #[vi x] [])
  refine .go (fun _ k => XS.iloadN X11.here hx rfl (hb hby d1_6) rfl k) ?_
  obtain ⟨v12, T12, L12, X12, q12, st12⟩ := callSt X11 hx hZ hown (hw _ w_6) (hw _ w_7) (hw _ w_8) (hw _ w_9) (by decide) (W := 0) (rmCanY l Z a0 hw n0 h0 O x hp) e11 (by decide) (by decide) (by decide) (by decide) (g := (mkF m 7 #[vi x] [(.int x)])) rfl (by rw [hml]; rfl) (argsL := [(.int x)]) (rest := []) (lenOf pd_oCcZ rfl) rfl (wk rfl rfl) (hb hby d1_7)
  obtain ⟨rfl, e12, rfl⟩ := q12
  have N12 := Fr.app N0 (Fr.nil n0)
  refine Fin.go st12 ?_
  show Fin _ _ _ _ _ _ _ _ T12 (mkF m 10 #[vi x] [(.int (1 : Int32))])
  refine .go (fun _ k => XS.ifNo X12.here hx rfl (hb hby d1_10) rfl (XT.i0_eq_f (by decide)) k) ?_
  show Fin _ _ _ _ _ _ _ _ T12 (mkF m 13 #[vi x] [])
  obtain ⟨T13, h13, X13, e13, E13, A13, D13, U13, st13⟩ := newO X12 hx hZ hown (hw _ w_10) (hw _ w_11) (hw _ w_3) e12 (g := (mkF m 13 #[vi x] [])) rfl (hb hby d1_13) (by decide) (by decide)
  obtain ⟨a13, g13⟩ : ∃ z, z = h0.size := ⟨_, rfl⟩
  rw [← g13] at A13 D13 U13 st13
  refine Fin.go st13 ?_
  have O13 := O.ext E13
  have K13 := K0.ext E13
  have n13 : n0 ≤ a13 := by have := O.2.1; have := O.1; omega
  have z13 : h0.size ≤ a13 := by have := K0.1; omega
  have F13_value : Fld Z h13 a13 "java/lang/String" "value" "[B" .null := D13 (Or.inr (hw _ w_24)) (ty := (.array .byte)) (by decide)
  have F13_coder : Fld Z h13 a13 "java/lang/String" "coder" "B" (.int (0 : Int32)) := D13 (Or.inr (hw _ w_26)) (ty := .byte) (by decide)
  show Fin _ _ _ _ _ _ _ _ T13 (mkF m 16 #[vi x] [(.ref a13)])
  refine .go (fun _ k => XS.dup X13.here hx rfl (hb hby d1_16) rfl rfl k) ?_
  refine .go (fun _ k => XS.iloadN X13.here hx rfl (hb hby d1_17) rfl k) ?_
  obtain ⟨v14, T14, L14, X14, q14, st14⟩ := callSt X13 hx hZ hown (hw _ w_12) (hw _ w_13) (hw _ w_8) (hw _ w_14) (by decide) (W := 2) (rmTb0 l Z a0 hw n0 h13 O13 x) e13 (by decide) (by decide) (by decide) (by decide) (g := (mkF m 18 #[vi x] [(.int x), (.ref a13), (.ref a13)])) rfl (by rw [hml]; rfl) (argsL := [(.int x)]) (rest := [(.ref a13), (.ref a13)]) (lenOf pd_oCcAB rfl) rfl (wk rfl rfl) (hb hby d1_18)
  obtain ⟨d14, kd14, rfl, Nq14, Kq14, V14, zd14⟩ := q14
  have N14 := Fr.app N12 Nq14
  have O14 := O13.keep Kq14 all0
  have K14 := K13.trans Kq14 all0
  refine Fin.go st14 ?_
  show Fin _ _ _ _ _ _ _ _ T14 (mkF m 21 #[vi x] [(.ref d14), (.ref a13), (.ref a13)])
  have nzd14 : n0 ≤ d14 := Nat.le_trans (by have := O13.1; have := O13.2.1; omega) zd14
  have hzd14 : h0.size ≤ d14 := Nat.le_trans K13.1 zd14
  refine .go (fun _ k => XS.iconst X14.here hx rfl (hb hby d1_21) k) ?_
  obtain ⟨v15, T15, L15, X15, q15, st15⟩ := callCt X14 hx hZ (y := (⟨"java/lang/String", "<init>", "([BB)V"⟩ : MethodName)) rfl hown (hw _ w_16) (hw _ w_17) (hw _ w_3) (hw _ w_19) (by decide) (W := 1) (rmBB0 l Z a0 hw n0 T14.heap O14 a13 d14 (A13.keep Kq14) (F13_coder.keep Kq14 nin0) (F13_value.keep Kq14 nin0) n13) (rfl : T14.heap = T14.heap) (by decide) (by decide) (by decide) (by decide) (g := (mkF m 22 #[vi x] [(.int (0 : Int32)), (.ref d14), (.ref a13), (.ref a13)])) rfl (by rw [hml]; rfl) (a := a13) (argsL := [(.ref d14), (.int (0 : Int32))]) (rest := [(.ref a13)]) (lenOf pd_oABBcV rfl) rfl (wk rfl rfl) (hb hby d1_22)
  obtain ⟨rfl, Nq15, Kq15, A15, C15, F15⟩ := q15
  have N15 := Fr.app N14 Nq15
  have O15 := O14.keep Kq15 (allS n13 all0)
  have K15 := K14.trans Kq15 (allS (Or.inr z13) all0)
  refine Fin.go st15 ?_
  have V15_d14 := (V14.keep Kq15 (ninS (Ne.symm (Nat.ne_of_lt (Nat.lt_of_lt_of_le F13_coder.lt zd14))) nin0))
  show Fin _ _ _ _ _ _ _ _ T15 (mkF m 25 #[vi x] [(.ref a13)])
  exact Fin.leaveN X15 (rfl : T15.heap = T15.heap) hlk (v := some (.ref a13)) (nvS hret) (by decide) (by decide) ⟨a13, (0 : Int32), rfl, N15, K15, sxRaw A15 C15 F15 (Or.inl ⟨rfl, lat1 hp, V15_d14⟩)⟩ (fun fs hr => retOut X15 hx hret rfl (Or.inr (Or.inr (Or.inr (Or.inr ⟨rfl, rfl, rfl⟩)))) (hb hby d1_25) hr)
theorem rmVo1 (l : Launch) (Z : State) (a0 : Array Value) (hw : HW a0 Z) (n0 : Nat) (h0 : Heap) (O : Old Z n0 h0) (x : Int32) (hp : (255 : Int32) < x) (cs : Int32) (S_cs : Sta Z Z.heap "java/lang/String" "COMPACT_STRINGS" "Z" (.int cs)) (hcs : ¬ cs = 0) (S_as : SAs Z) (S_hb : SHb Z) (S_lb : SLb Z) :
    ConW FrameEnd l Z [] (⟨"java/lang/String", "valueOf", "(C)Ljava/lang/String;"⟩ : MethodName) jdk_42_method_139_code 1 (some (.object "java/lang/String")) ({ frames := 2, cells := 2, slots := 6, locals := 29 } : Room) #[(.int x)] h0 (fun v h L => ∃ a co, v = some (.ref a) ∧ Fr n0 L ∧ Keep h0 h [] ∧ SX Z h a co [x] h.size) := by
  refine conOf (plainFor_of_name pn_java_lang_String) ?_
  intro p e s m below mth cc s₁ X0 hx hby hml hown hnm hret hlk hZ e0
  have N0 := Fr.nil n0
  have K0 := Keep.refl h0 ([] : List Addr)
  refine Fin.came (castTop (t := _) (by first | (simp [entryFrame, mkF, argsToLocals, Value.category]; done) | rfl) (Steps.refl _) : Steps p.tables e below (s₁.setTop (entryFrame m #[(.int x)] 1)) (s₁.setTop (mkF m 0 #[vi x] []))) ?_
  obtain ⟨T11, X11, e11, st11⟩ := getS2 X0 hx hZ hown (host := "") (Or.inl (hw _ w_5)) Via.refl e0 (S_cs.ext O.2) (g := (mkF m 0 #[vi x] [])) rfl (hb hby d1_0)
  refine Fin.go st11 ?_
  show Fin _ _ _ _ _ _ _ _ T11 (mkF m 3 #[vi x] [(.int cs)])
  refine .go (fun _ k => XS.ifNo X11.here hx rfl (hb hby d1_3) rfl (XT.i0_eq_f hcs) k) ?_
  show Fin _ _ _ _ _ _ _ _ T11 (mkF m 6 #[vi x] [])
  refine .go (fun _ k => XS.iloadN X11.here hx rfl (hb hby d1_6) rfl k) ?_
  obtain ⟨v12, T12, L12, X12, q12, st12⟩ := callSt X11 hx hZ hown (hw _ w_6) (hw _ w_7) (hw _ w_8) (hw _ w_9) (by decide) (W := 0) (rmCanN l Z a0 hw n0 h0 O x hp) e11 (by decide) (by decide) (by decide) (by decide) (g := (mkF m 7 #[vi x] [(.int x)])) rfl (by rw [hml]; rfl) (argsL := [(.int x)]) (rest := []) (lenOf pd_oCcZ rfl) rfl (wk rfl rfl) (hb hby d1_7)
  obtain ⟨rfl, e12, rfl⟩ := q12
  have N12 := Fr.app N0 (Fr.nil n0)
  refine Fin.go st12 ?_
  show Fin _ _ _ _ _ _ _ _ T12 (mkF m 10 #[vi x] [(.int (0 : Int32))])
  refine .go (fun _ k => XS.ifYes X12.here hx rfl (pc0 := 10) (pc' := 26) rfl (hb hby d1_10) rfl (XT.i0_eq_t (by decide)) (by decide) (by decide) k) ?_
  show Fin _ _ _ _ _ _ _ _ T12 (mkF m 26 #[vi x] [])
  obtain ⟨T13, h13, X13, e13, E13, A13, D13, U13, st13⟩ := newO X12 hx hZ hown (hw _ w_10) (hw _ w_11) (hw _ w_3) e12 (g := (mkF m 26 #[vi x] [])) rfl (hb hby d1_26) (by decide) (by decide)
  obtain ⟨a13, g13⟩ : ∃ z, z = h0.size := ⟨_, rfl⟩
  rw [← g13] at A13 D13 U13 st13
  refine Fin.go st13 ?_
  have O13 := O.ext E13
  have K13 := K0.ext E13
  have n13 : n0 ≤ a13 := by have := O.2.1; have := O.1; omega
  have z13 : h0.size ≤ a13 := by have := K0.1; omega
  have F13_value : Fld Z h13 a13 "java/lang/String" "value" "[B" .null := D13 (Or.inr (hw _ w_24)) (ty := (.array .byte)) (by decide)
  have F13_coder : Fld Z h13 a13 "java/lang/String" "coder" "B" (.int (0 : Int32)) := D13 (Or.inr (hw _ w_26)) (ty := .byte) (by decide)
  show Fin _ _ _ _ _ _ _ _ T13 (mkF m 29 #[vi x] [(.ref a13)])
  refine .go (fun _ k => XS.dup X13.here hx rfl (hb hby d1_29) rfl rfl k) ?_
  refine .go (fun _ k => XS.iloadN X13.here hx rfl (hb hby d1_30) rfl k) ?_
  obtain ⟨v14, T14, L14, X14, q14, st14⟩ := callSt X13 hx hZ hown (hw _ w_295) (hw _ w_296) (hw _ w_37) (hw _ w_297) (by decide) (W := 2) (rmTb1 l Z a0 hw n0 h13 O13 x S_as S_hb S_lb) e13 (by decide) (by decide) (by decide) (by decide) (g := (mkF m 31 #[vi x] [(.int x), (.ref a13), (.ref a13)])) rfl (by rw [hml]; rfl) (argsL := [(.int x)]) (rest := [(.ref a13), (.ref a13)]) (lenOf pd_oCcAB rfl) rfl (wk rfl rfl) (hb hby d1_31)
  obtain ⟨d14, kd14, rfl, Nq14, Kq14, V14, zd14⟩ := q14
  have N14 := Fr.app N12 Nq14
  have O14 := O13.keep Kq14 all0
  have K14 := K13.trans Kq14 all0
  refine Fin.go st14 ?_
  show Fin _ _ _ _ _ _ _ _ T14 (mkF m 34 #[vi x] [(.ref d14), (.ref a13), (.ref a13)])
  have nzd14 : n0 ≤ d14 := Nat.le_trans (by have := O13.1; have := O13.2.1; omega) zd14
  have hzd14 : h0.size ≤ d14 := Nat.le_trans K13.1 zd14
  refine .go (fun _ k => XS.iconst X14.here hx rfl (hb hby d1_34) k) ?_
  obtain ⟨v15, T15, L15, X15, q15, st15⟩ := callCt X14 hx hZ (y := (⟨"java/lang/String", "<init>", "([BB)V"⟩ : MethodName)) rfl hown (hw _ w_16) (hw _ w_17) (hw _ w_3) (hw _ w_19) (by decide) (W := 1) (rmBB1 l Z a0 hw n0 T14.heap O14 a13 d14 (A13.keep Kq14) (F13_coder.keep Kq14 nin0) (F13_value.keep Kq14 nin0) n13) (rfl : T14.heap = T14.heap) (by decide) (by decide) (by decide) (by decide) (g := (mkF m 35 #[vi x] [(.int (1 : Int32)), (.ref d14), (.ref a13), (.ref a13)])) rfl (by rw [hml]; rfl) (a := a13) (argsL := [(.ref d14), (.int (1 : Int32))]) (rest := [(.ref a13)]) (lenOf pd_oABBcV rfl) rfl (wk rfl rfl) (hb hby d1_35)
  obtain ⟨rfl, Nq15, Kq15, A15, C15, F15⟩ := q15
  have N15 := Fr.app N14 Nq15
  have O15 := O14.keep Kq15 (allS n13 all0)
  have K15 := K14.trans Kq15 (allS (Or.inr z13) all0)
  refine Fin.go st15 ?_
  have V15_d14 := (V14.keep Kq15 (ninS (Ne.symm (Nat.ne_of_lt (Nat.lt_of_lt_of_le F13_coder.lt zd14))) nin0))
  show Fin _ _ _ _ _ _ _ _ T15 (mkF m 38 #[vi x] [(.ref a13)])
  exact Fin.leaveN X15 (rfl : T15.heap = T15.heap) hlk (v := some (.ref a13)) (nvS hret) (by decide) (by decide) ⟨a13, (1 : Int32), rfl, N15, K15, sxRaw A15 C15 F15 (Or.inr ⟨rfl, nlat1 hp, V15_d14⟩)⟩ (fun fs hr => retOut X15 hx hret rfl (Or.inr (Or.inr (Or.inr (Or.inr ⟨rfl, rfl, rfl⟩)))) (hb hby d1_38) hr)
theorem rmVo (l : Launch) (Z : State) (a0 : Array Value) (hw : HW a0 Z) (n0 : Nat) (h0 : Heap) (O : Old Z n0 h0) (x : Int32) (cs : Int32) (S_cs : Sta Z Z.heap "java/lang/String" "COMPACT_STRINGS" "Z" (.int cs)) (hcs : ¬ cs = 0) (S_as : SAs Z) (S_hb : SHb Z) (S_lb : SLb Z) : Con FrameEnd l Z (⟨"java/lang/String", "valueOf", "(C)Ljava/lang/String;"⟩ : MethodName) jdk_42_method_139_code 1 (some (.object "java/lang/String")) ({ frames := 2, cells := 2, slots := 6, locals := 29 } : Room) #[(.int x)] h0 (fun v h L => ∃ a co, v = some (.ref a) ∧ Fr n0 L ∧ Keep h0 h [] ∧ SX Z h a co [x] h.size) := by
  by_cases hp : (255 : Int32) < x
  · exact rmVo1 l Z a0 hw n0 h0 O x hp cs S_cs hcs S_as S_hb S_lb
  · exact rmVo0 l Z a0 hw n0 h0 O x hp cs S_cs hcs S_as S_hb S_lb
theorem rmThr (l : Launch) (Z : State) (a0 : Array Value) (hw : HW a0 Z) (n0 : Nat) (h0 : Heap) (O : Old Z n0 h0) (u g : Addr) (U : Exa Z h0 u "com/example/spool/spool/http/HttpError") (U0 : Fld Z h0 u "com/example/spool/spool/http/HttpError" "_status" "I" (.int (0 : Int32))) (U1 : Fld Z h0 u "com/example/spool/spool/http/HttpError" "_code" "Ljava/lang/String;" .null) (U2 : Fld Z h0 u "com/example/spool/spool/http/HttpError" "_allowed" "Ljava/lang/String;" .null) (U3 : Fld Z h0 u "java/lang/Throwable" "detailMessage" "Ljava/lang/String;" .null) (U4 : Fld Z h0 u "java/lang/Throwable" "cause" "Ljava/lang/Throwable;" .null) (U5 : Fld Z h0 u "java/lang/Throwable" "stackTrace" "[Ljava/lang/StackTraceElement;" .null) (U6 : Fld Z h0 u "java/lang/Throwable" "suppressedExceptions" "Ljava/util/List;" .null) (nu : n0 ≤ u) (us : Value) (hus : us.isRef = true) (S_us : Sta Z Z.heap "java/lang/Throwable" "UNASSIGNED_STACK" "[Ljava/lang/StackTraceElement;" us) (ss : Value) (hss : ss.isRef = true) (S_ss : Sta Z Z.heap "java/lang/Throwable" "SUPPRESSED_SENTINEL" "Ljava/util/List;" ss) :
    ConW FrameEnd l Z [] (⟨"java/lang/Throwable", "<init>", "(Ljava/lang/String;Ljava/lang/Throwable;ZZ)V"⟩ : MethodName) jdk_78_method_5_code 5 none ({ frames := 1, cells := 0, slots := 0, locals := 12 } : Room) #[(.ref u), (.ref g), .null, (.int (0 : Int32)), (.int (0 : Int32))] h0 (fun v h L => v = none ∧ Fr n0 L ∧ Keep h0 h [u] ∧ Exa Z h u "com/example/spool/spool/http/HttpError" ∧ Fld Z h u "com/example/spool/spool/http/HttpError" "_status" "I" (.int (0 : Int32)) ∧ Fld Z h u "com/example/spool/spool/http/HttpError" "_code" "Ljava/lang/String;" .null ∧ Fld Z h u "com/example/spool/spool/http/HttpError" "_allowed" "Ljava/lang/String;" .null ∧ Fld Z h u "java/lang/Throwable" "detailMessage" "Ljava/lang/String;" (.ref g)) := by
  refine conOf (plainFor_of_name pn_java_lang_Throwable) ?_
  intro p e s m below mth cc s₁ X0 hx hby hml hown hnm hret hlk hZ e0
  have N0 := Fr.nil n0
  have K0 := Keep.refl h0 ([u] : List Addr)
  refine Fin.came (castTop (t := _) (by first | (simp [entryFrame, mkF, argsToLocals, Value.category]; done) | rfl) (Steps.refl _) : Steps p.tables e below (s₁.setTop (entryFrame m #[(.ref u), (.ref g), .null, (.int (0 : Int32)), (.int (0 : Int32))] 5)) (s₁.setTop (mkF m 0 #[vr u, vr g, .val .null, vi (0 : Int32), vi (0 : Int32)] []))) ?_
  refine .go (fun _ k => XS.aloadN X0.here hx rfl (hb hby d39_0) rfl rfl k) ?_
  obtain ⟨T11, X11, e11, st11⟩ := initO X0 hx hZ hown (hw _ w_197) (hw _ w_21) (hw _ w_22) e0 (g := (mkF m 1 #[vr u, vr g, .val .null, vi (0 : Int32), vi (0 : Int32)] [(.ref u)])) rfl (by rw [hml]; rfl) rfl (hb hby d39_1) (by decide) (W := 0) (wk rfl rfl) (by decide)
  refine Fin.go st11 ?_
  show Fin _ _ _ _ _ _ _ _ T11 (mkF m 4 #[vr u, vr g, .val .null, vi (0 : Int32), vi (0 : Int32)] [])
  refine .go (fun _ k => XS.aloadN X11.here hx rfl (hb hby d39_4) rfl rfl k) ?_
  refine .go (fun _ k => XS.aloadN X11.here hx rfl (hb hby d39_5) rfl rfl k) ?_
  obtain ⟨T12, h12, X12, e12, W12, st12⟩ := putF X11 hx hZ hown (host := "") (Or.inl (hw _ w_198)) Via.refl e11 U4 U (Or.inl (hw _ w_199)) (hw _ w_50) (ty := (.object "java/lang/Throwable")) (by decide) rfl rfl (g := (mkF m 6 #[vr u, vr g, .val .null, vi (0 : Int32), vi (0 : Int32)] [(.ref u), (.ref u)])) rfl rfl (hb hby d39_6)
  refine Fin.go st12 ?_
  have N12 := Fr.snoc X12 N0 nu
  have O12 := O.wr W12 nu
  have K12 := K0.wr W12 (Or.inl (List.mem_of_getElem? (i := 0) rfl))
  have F12_u__status := (U0.other W12 (Or.inr (slot_ne (Or.inr (hw _ w_209)) (Or.inl (hw _ w_199)) (by decide) (t := .int) (t' := (.object "java/lang/Throwable")) (by decide) (by decide))))
  have F12_u__code := (U1.other W12 (Or.inr (slot_ne (Or.inr (hw _ w_211)) (Or.inl (hw _ w_199)) (by decide) (t := (.object "java/lang/String")) (t' := (.object "java/lang/Throwable")) (by decide) (by decide))))
  have F12_u__allowed := (U2.other W12 (Or.inr (slot_ne (Or.inl (hw _ w_213)) (Or.inl (hw _ w_199)) (by decide) (t := (.object "java/lang/String")) (t' := (.object "java/lang/Throwable")) (by decide) (by decide))))
  have F12_u_detailMessage := (U3.other W12 (Or.inr (slot_ne (Or.inl (hw _ w_207)) (Or.inl (hw _ w_199)) (by decide) (t := (.object "java/lang/String")) (t' := (.object "java/lang/Throwable")) (by decide) (by decide))))
  have F12_u_stackTrace := (U5.other W12 (Or.inr (slot_ne (Or.inl (hw _ w_202)) (Or.inl (hw _ w_199)) (by decide) (t := (.array (.object "java/lang/StackTraceElement"))) (t' := (.object "java/lang/Throwable")) (by decide) (by decide))))
  have F12_u_suppressedExceptions := (U6.other W12 (Or.inr (slot_ne (Or.inl (hw _ w_205)) (Or.inl (hw _ w_199)) (by decide) (t := (.object "java/util/List")) (t' := (.object "java/lang/Throwable")) (by decide) (by decide))))
  show Fin _ _ _ _ _ _ _ _ T12 (mkF m 9 #[vr u, vr g, .val .null, vi (0 : Int32), vi (0 : Int32)] [])
  refine .go (fun _ k => XS.aloadN X12.here hx rfl (hb hby d39_9) rfl rfl k) ?_
  obtain ⟨T13, X13, e13, st13⟩ := getS2 X12 hx hZ hown (host := "") (Or.inl (hw _ w_200)) Via.refl e12 (S_us.ext O12.2) (g := (mkF m 10 #[vr u, vr g, .val .null, vi (0 : Int32), vi (0 : Int32)] [(.ref u)])) rfl (hb hby d39_10)
  refine Fin.go st13 ?_
  show Fin _ _ _ _ _ _ _ _ T13 (mkF m 13 #[vr u, vr g, .val .null, vi (0 : Int32), vi (0 : Int32)] [us, (.ref u)])
  obtain ⟨T14, h14, X14, e14, W14, st14⟩ := putF X13 hx hZ hown (host := "") (Or.inl (hw _ w_201)) Via.refl e13 F12_u_stackTrace (U.wr W12) (Or.inl (hw _ w_202)) (hw _ w_50) (ty := (.array (.object "java/lang/StackTraceElement"))) (by decide) (nar_refv hus rfl) (fits_refv hus rfl) (g := (mkF m 13 #[vr u, vr g, .val .null, vi (0 : Int32), vi (0 : Int32)] [us, (.ref u)])) rfl rfl (hb hby d39_13)
  refine Fin.go st14 ?_
  have N14 := Fr.snoc X14 N12 nu
  have O14 := O12.wr W14 nu
  have K14 := K12.wr W14 (Or.inl (List.mem_of_getElem? (i := 0) rfl))
  have F14_u__status := (F12_u__status.other W14 (Or.inr (slot_ne (Or.inr (hw _ w_209)) (Or.inl (hw _ w_202)) (by decide) (t := .int) (t' := (.array (.object "java/lang/StackTraceElement"))) (by decide) (by decide))))
  have F14_u__code := (F12_u__code.other W14 (Or.inr (slot_ne (Or.inr (hw _ w_211)) (Or.inl (hw _ w_202)) (by decide) (t := (.object "java/lang/String")) (t' := (.array (.object "java/lang/StackTraceElement"))) (by decide) (by decide))))
  have F14_u__allowed := (F12_u__allowed.other W14 (Or.inr (slot_ne (Or.inl (hw _ w_213)) (Or.inl (hw _ w_202)) (by decide) (t := (.object "java/lang/String")) (t' := (.array (.object "java/lang/StackTraceElement"))) (by decide) (by decide))))
  have F14_u_detailMessage := (F12_u_detailMessage.other W14 (Or.inr (slot_ne (Or.inl (hw _ w_207)) (Or.inl (hw _ w_202)) (by decide) (t := (.object "java/lang/String")) (t' := (.array (.object "java/lang/StackTraceElement"))) (by decide) (by decide))))
  have F14_u_cause := ((U4.same W12).other W14 (Or.inr (slot_ne (Or.inl (hw _ w_199)) (Or.inl (hw _ w_202)) (by decide) (t := (.object "java/lang/Throwable")) (t' := (.array (.object "java/lang/StackTraceElement"))) (by decide) (by decide))))
  have F14_u_suppressedExceptions := (F12_u_suppressedExceptions.other W14 (Or.inr (slot_ne (Or.inl (hw _ w_205)) (Or.inl (hw _ w_202)) (by decide) (t := (.object "java/util/List")) (t' := (.array (.object "java/lang/StackTraceElement"))) (by decide) (by decide))))
  show Fin _ _ _ _ _ _ _ _ T14 (mkF m 16 #[vr u, vr g, .val .null, vi (0 : Int32), vi (0 : Int32)] [])
  refine .go (fun _ k => XS.aloadN X14.here hx rfl (hb hby d39_16) rfl rfl k) ?_
  obtain ⟨T15, X15, e15, st15⟩ := getS2 X14 hx hZ hown (host := "") (Or.inl (hw _ w_203)) Via.refl e14 (S_ss.ext O14.2) (g := (mkF m 17 #[vr u, vr g, .val .null, vi (0 : Int32), vi (0 : Int32)] [(.ref u)])) rfl (hb hby d39_17)
  refine Fin.go st15 ?_
  show Fin _ _ _ _ _ _ _ _ T15 (mkF m 20 #[vr u, vr g, .val .null, vi (0 : Int32), vi (0 : Int32)] [ss, (.ref u)])
  obtain ⟨T16, h16, X16, e16, W16, st16⟩ := putF X15 hx hZ hown (host := "") (Or.inl (hw _ w_204)) Via.refl e15 F14_u_suppressedExceptions ((U.wr W12).wr W14) (Or.inl (hw _ w_205)) (hw _ w_50) (ty := (.object "java/util/List")) (by decide) (nar_refv hss rfl) (fits_refv hss rfl) (g := (mkF m 20 #[vr u, vr g, .val .null, vi (0 : Int32), vi (0 : Int32)] [ss, (.ref u)])) rfl rfl (hb hby d39_20)
  refine Fin.go st16 ?_
  have N16 := Fr.snoc X16 N14 nu
  have O16 := O14.wr W16 nu
  have K16 := K14.wr W16 (Or.inl (List.mem_of_getElem? (i := 0) rfl))
  have F16_u__status := (F14_u__status.other W16 (Or.inr (slot_ne (Or.inr (hw _ w_209)) (Or.inl (hw _ w_205)) (by decide) (t := .int) (t' := (.object "java/util/List")) (by decide) (by decide))))
  have F16_u__code := (F14_u__code.other W16 (Or.inr (slot_ne (Or.inr (hw _ w_211)) (Or.inl (hw _ w_205)) (by decide) (t := (.object "java/lang/String")) (t' := (.object "java/util/List")) (by decide) (by decide))))
  have F16_u__allowed := (F14_u__allowed.other W16 (Or.inr (slot_ne (Or.inl (hw _ w_213)) (Or.inl (hw _ w_205)) (by decide) (t := (.object "java/lang/String")) (t' := (.object "java/util/List")) (by decide) (by decide))))
  have F16_u_detailMessage := (F14_u_detailMessage.other W16 (Or.inr (slot_ne (Or.inl (hw _ w_207)) (Or.inl (hw _ w_205)) (by decide) (t := (.object "java/lang/String")) (t' := (.object "java/util/List")) (by decide) (by decide))))
  have F16_u_cause := (F14_u_cause.other W16 (Or.inr (slot_ne (Or.inl (hw _ w_199)) (Or.inl (hw _ w_205)) (by decide) (t := (.object "java/lang/Throwable")) (t' := (.object "java/util/List")) (by decide) (by decide))))
  have F16_u_stackTrace := ((F12_u_stackTrace.same W14).other W16 (Or.inr (slot_ne (Or.inl (hw _ w_202)) (Or.inl (hw _ w_205)) (by decide) (t := (.array (.object "java/lang/StackTraceElement"))) (t' := (.object "java/util/List")) (by decide) (by decide))))
  show Fin _ _ _ _ _ _ _ _ T16 (mkF m 23 #[vr u, vr g, .val .null, vi (0 : Int32), vi (0 : Int32)] [])
  refine .go (fun _ k => XS.iload X16.here hx rfl (hb hby d39_23) rfl k) ?_
  refine .go (fun _ k => XS.ifYes X16.here hx rfl (pc0 := 25) (pc' := 36) rfl (hb hby d39_25) rfl (XT.i0_eq_t (by decide)) (by decide) (by decide) k) ?_
  show Fin _ _ _ _ _ _ _ _ T16 (mkF m 36 #[vr u, vr g, .val .null, vi (0 : Int32), vi (0 : Int32)] [])
  refine .go (fun _ k => XS.aloadN X16.here hx rfl (hb hby d39_36) rfl rfl k) ?_
  refine .go (fun _ k => XS.aconstNull X16.here hx rfl (hb hby d39_37) k) ?_
  obtain ⟨T17, h17, X17, e17, W17, st17⟩ := putF X16 hx hZ hown (host := "") (Or.inl (hw _ w_201)) Via.refl e16 F16_u_stackTrace (((U.wr W12).wr W14).wr W16) (Or.inl (hw _ w_202)) (hw _ w_50) (ty := (.array (.object "java/lang/StackTraceElement"))) (by decide) rfl rfl (g := (mkF m 38 #[vr u, vr g, .val .null, vi (0 : Int32), vi (0 : Int32)] [.null, (.ref u)])) rfl rfl (hb hby d39_38)
  refine Fin.go st17 ?_
  have N17 := Fr.snoc X17 N16 nu
  have O17 := O16.wr W17 nu
  have K17 := K16.wr W17 (Or.inl (List.mem_of_getElem? (i := 0) rfl))
  have F17_u__status := (F16_u__status.other W17 (Or.inr (slot_ne (Or.inr (hw _ w_209)) (Or.inl (hw _ w_202)) (by decide) (t := .int) (t' := (.array (.object "java/lang/StackTraceElement"))) (by decide) (by decide))))
  have F17_u__code := (F16_u__code.other W17 (Or.inr (slot_ne (Or.inr (hw _ w_211)) (Or.inl (hw _ w_202)) (by decide) (t := (.object "java/lang/String")) (t' := (.array (.object "java/lang/StackTraceElement"))) (by decide) (by decide))))
  have F17_u__allowed := (F16_u__allowed.other W17 (Or.inr (slot_ne (Or.inl (hw _ w_213)) (Or.inl (hw _ w_202)) (by decide) (t := (.object "java/lang/String")) (t' := (.array (.object "java/lang/StackTraceElement"))) (by decide) (by decide))))
  have F17_u_detailMessage := (F16_u_detailMessage.other W17 (Or.inr (slot_ne (Or.inl (hw _ w_207)) (Or.inl (hw _ w_202)) (by decide) (t := (.object "java/lang/String")) (t' := (.array (.object "java/lang/StackTraceElement"))) (by decide) (by decide))))
  have F17_u_cause := (F16_u_cause.other W17 (Or.inr (slot_ne (Or.inl (hw _ w_199)) (Or.inl (hw _ w_202)) (by decide) (t := (.object "java/lang/Throwable")) (t' := (.array (.object "java/lang/StackTraceElement"))) (by decide) (by decide))))
  have F17_u_suppressedExceptions := ((F14_u_suppressedExceptions.same W16).other W17 (Or.inr (slot_ne (Or.inl (hw _ w_205)) (Or.inl (hw _ w_202)) (by decide) (t := (.object "java/util/List")) (t' := (.array (.object "java/lang/StackTraceElement"))) (by decide) (by decide))))
  show Fin _ _ _ _ _ _ _ _ T17 (mkF m 41 #[vr u, vr g, .val .null, vi (0 : Int32), vi (0 : Int32)] [])
  refine .go (fun _ k => XS.aloadN X17.here hx rfl (hb hby d39_41) rfl rfl k) ?_
  refine .go (fun _ k => XS.aloadN X17.here hx rfl (hb hby d39_42) rfl rfl k) ?_
  obtain ⟨T18, h18, X18, e18, W18, st18⟩ := putF X17 hx hZ hown (host := "") (Or.inl (hw _ w_206)) Via.refl e17 F17_u_detailMessage ((((U.wr W12).wr W14).wr W16).wr W17) (Or.inl (hw _ w_207)) (hw _ w_50) (ty := (.object "java/lang/String")) (by decide) rfl rfl (g := (mkF m 43 #[vr u, vr g, .val .null, vi (0 : Int32), vi (0 : Int32)] [(.ref g), (.ref u)])) rfl rfl (hb hby d39_43)
  refine Fin.go st18 ?_
  have N18 := Fr.snoc X18 N17 nu
  have O18 := O17.wr W18 nu
  have K18 := K17.wr W18 (Or.inl (List.mem_of_getElem? (i := 0) rfl))
  have F18_u__status := (F17_u__status.other W18 (Or.inr (slot_ne (Or.inr (hw _ w_209)) (Or.inl (hw _ w_207)) (by decide) (t := .int) (t' := (.object "java/lang/String")) (by decide) (by decide))))
  have F18_u__code := (F17_u__code.other W18 (Or.inr (slot_ne (Or.inr (hw _ w_211)) (Or.inl (hw _ w_207)) (by decide) (t := (.object "java/lang/String")) (t' := (.object "java/lang/String")) (by decide) (by decide))))
  have F18_u__allowed := (F17_u__allowed.other W18 (Or.inr (slot_ne (Or.inl (hw _ w_213)) (Or.inl (hw _ w_207)) (by decide) (t := (.object "java/lang/String")) (t' := (.object "java/lang/String")) (by decide) (by decide))))
  have F18_u_cause := (F17_u_cause.other W18 (Or.inr (slot_ne (Or.inl (hw _ w_199)) (Or.inl (hw _ w_207)) (by decide) (t := (.object "java/lang/Throwable")) (t' := (.object "java/lang/String")) (by decide) (by decide))))
  have F18_u_stackTrace := ((F16_u_stackTrace.same W17).other W18 (Or.inr (slot_ne (Or.inl (hw _ w_202)) (Or.inl (hw _ w_207)) (by decide) (t := (.array (.object "java/lang/StackTraceElement"))) (t' := (.object "java/lang/String")) (by decide) (by decide))))
  have F18_u_suppressedExceptions := (F17_u_suppressedExceptions.other W18 (Or.inr (slot_ne (Or.inl (hw _ w_205)) (Or.inl (hw _ w_207)) (by decide) (t := (.object "java/util/List")) (t' := (.object "java/lang/String")) (by decide) (by decide))))
  show Fin _ _ _ _ _ _ _ _ T18 (mkF m 46 #[vr u, vr g, .val .null, vi (0 : Int32), vi (0 : Int32)] [])
  refine .go (fun _ k => XS.aloadN X18.here hx rfl (hb hby d39_46) rfl rfl k) ?_
  refine .go (fun _ k => XS.aloadN X18.here hx rfl (hb hby d39_47) rfl rfl k) ?_
  obtain ⟨T19, h19, X19, e19, W19, st19⟩ := putF X18 hx hZ hown (host := "") (Or.inl (hw _ w_198)) Via.refl e18 F18_u_cause (((((U.wr W12).wr W14).wr W16).wr W17).wr W18) (Or.inl (hw _ w_199)) (hw _ w_50) (ty := (.object "java/lang/Throwable")) (by decide) rfl rfl (g := (mkF m 48 #[vr u, vr g, .val .null, vi (0 : Int32), vi (0 : Int32)] [.null, (.ref u)])) rfl rfl (hb hby d39_48)
  refine Fin.go st19 ?_
  have N19 := Fr.snoc X19 N18 nu
  have O19 := O18.wr W19 nu
  have K19 := K18.wr W19 (Or.inl (List.mem_of_getElem? (i := 0) rfl))
  have F19_u__status := (F18_u__status.other W19 (Or.inr (slot_ne (Or.inr (hw _ w_209)) (Or.inl (hw _ w_199)) (by decide) (t := .int) (t' := (.object "java/lang/Throwable")) (by decide) (by decide))))
  have F19_u__code := (F18_u__code.other W19 (Or.inr (slot_ne (Or.inr (hw _ w_211)) (Or.inl (hw _ w_199)) (by decide) (t := (.object "java/lang/String")) (t' := (.object "java/lang/Throwable")) (by decide) (by decide))))
  have F19_u__allowed := (F18_u__allowed.other W19 (Or.inr (slot_ne (Or.inl (hw _ w_213)) (Or.inl (hw _ w_199)) (by decide) (t := (.object "java/lang/String")) (t' := (.object "java/lang/Throwable")) (by decide) (by decide))))
  have F19_u_detailMessage := ((F17_u_detailMessage.same W18).other W19 (Or.inr (slot_ne (Or.inl (hw _ w_207)) (Or.inl (hw _ w_199)) (by decide) (t := (.object "java/lang/String")) (t' := (.object "java/lang/Throwable")) (by decide) (by decide))))
  have F19_u_stackTrace := (F18_u_stackTrace.other W19 (Or.inr (slot_ne (Or.inl (hw _ w_202)) (Or.inl (hw _ w_199)) (by decide) (t := (.array (.object "java/lang/StackTraceElement"))) (t' := (.object "java/lang/Throwable")) (by decide) (by decide))))
  have F19_u_suppressedExceptions := (F18_u_suppressedExceptions.other W19 (Or.inr (slot_ne (Or.inl (hw _ w_205)) (Or.inl (hw _ w_199)) (by decide) (t := (.object "java/util/List")) (t' := (.object "java/lang/Throwable")) (by decide) (by decide))))
  show Fin _ _ _ _ _ _ _ _ T19 (mkF m 51 #[vr u, vr g, .val .null, vi (0 : Int32), vi (0 : Int32)] [])
  refine .go (fun _ k => XS.iloadN X19.here hx rfl (hb hby d39_51) rfl k) ?_
  refine .go (fun _ k => XS.ifNo X19.here hx rfl (hb hby d39_52) rfl (XT.i0_ne_f (by decide)) k) ?_
  show Fin _ _ _ _ _ _ _ _ T19 (mkF m 55 #[vr u, vr g, .val .null, vi (0 : Int32), vi (0 : Int32)] [])
  refine .go (fun _ k => XS.aloadN X19.here hx rfl (hb hby d39_55) rfl rfl k) ?_
  refine .go (fun _ k => XS.aconstNull X19.here hx rfl (hb hby d39_56) k) ?_
  obtain ⟨T20, h20, X20, e20, W20, st20⟩ := putF X19 hx hZ hown (host := "") (Or.inl (hw _ w_204)) Via.refl e19 F19_u_suppressedExceptions ((((((U.wr W12).wr W14).wr W16).wr W17).wr W18).wr W19) (Or.inl (hw _ w_205)) (hw _ w_50) (ty := (.object "java/util/List")) (by decide) rfl rfl (g := (mkF m 57 #[vr u, vr g, .val .null, vi (0 : Int32), vi (0 : Int32)] [.null, (.ref u)])) rfl rfl (hb hby d39_57)
  refine Fin.go st20 ?_
  have N20 := Fr.snoc X20 N19 nu
  have O20 := O19.wr W20 nu
  have K20 := K19.wr W20 (Or.inl (List.mem_of_getElem? (i := 0) rfl))
  have A20_u := (((((((U.wr W12).wr W14).wr W16).wr W17).wr W18).wr W19).wr W20)
  have F20_u__status := (F19_u__status.other W20 (Or.inr (slot_ne (Or.inr (hw _ w_209)) (Or.inl (hw _ w_205)) (by decide) (t := .int) (t' := (.object "java/util/List")) (by decide) (by decide))))
  have F20_u__code := (F19_u__code.other W20 (Or.inr (slot_ne (Or.inr (hw _ w_211)) (Or.inl (hw _ w_205)) (by decide) (t := (.object "java/lang/String")) (t' := (.object "java/util/List")) (by decide) (by decide))))
  have F20_u__allowed := (F19_u__allowed.other W20 (Or.inr (slot_ne (Or.inl (hw _ w_213)) (Or.inl (hw _ w_205)) (by decide) (t := (.object "java/lang/String")) (t' := (.object "java/util/List")) (by decide) (by decide))))
  have F20_u_detailMessage := (F19_u_detailMessage.other W20 (Or.inr (slot_ne (Or.inl (hw _ w_207)) (Or.inl (hw _ w_205)) (by decide) (t := (.object "java/lang/String")) (t' := (.object "java/util/List")) (by decide) (by decide))))
  have F20_u_cause := ((F18_u_cause.same W19).other W20 (Or.inr (slot_ne (Or.inl (hw _ w_199)) (Or.inl (hw _ w_205)) (by decide) (t := (.object "java/lang/Throwable")) (t' := (.object "java/util/List")) (by decide) (by decide))))
  have F20_u_stackTrace := (F19_u_stackTrace.other W20 (Or.inr (slot_ne (Or.inl (hw _ w_202)) (Or.inl (hw _ w_205)) (by decide) (t := (.array (.object "java/lang/StackTraceElement"))) (t' := (.object "java/util/List")) (by decide) (by decide))))
  show Fin _ _ _ _ _ _ _ _ T20 (mkF m 60 #[vr u, vr g, .val .null, vi (0 : Int32), vi (0 : Int32)] [])
  exact Fin.leaveN X20 e20 hlk (v := none) (fun _ => rfl) (by decide) (by decide) ⟨rfl, N20, K20, A20_u, F20_u__status, F20_u__code, F20_u__allowed, F20_u_detailMessage⟩ (fun fs hr => X20.returnOut hx hret (hb hby d39_60) hr)
theorem rmExc (l : Launch) (Z : State) (a0 : Array Value) (hw : HW a0 Z) (n0 : Nat) (h0 : Heap) (O : Old Z n0 h0) (u g : Addr) (U : Exa Z h0 u "com/example/spool/spool/http/HttpError") (U0 : Fld Z h0 u "com/example/spool/spool/http/HttpError" "_status" "I" (.int (0 : Int32))) (U1 : Fld Z h0 u "com/example/spool/spool/http/HttpError" "_code" "Ljava/lang/String;" .null) (U2 : Fld Z h0 u "com/example/spool/spool/http/HttpError" "_allowed" "Ljava/lang/String;" .null) (U3 : Fld Z h0 u "java/lang/Throwable" "detailMessage" "Ljava/lang/String;" .null) (U4 : Fld Z h0 u "java/lang/Throwable" "cause" "Ljava/lang/Throwable;" .null) (U5 : Fld Z h0 u "java/lang/Throwable" "stackTrace" "[Ljava/lang/StackTraceElement;" .null) (U6 : Fld Z h0 u "java/lang/Throwable" "suppressedExceptions" "Ljava/util/List;" .null) (nu : n0 ≤ u) (us : Value) (hus : us.isRef = true) (S_us : Sta Z Z.heap "java/lang/Throwable" "UNASSIGNED_STACK" "[Ljava/lang/StackTraceElement;" us) (ss : Value) (hss : ss.isRef = true) (S_ss : Sta Z Z.heap "java/lang/Throwable" "SUPPRESSED_SENTINEL" "Ljava/util/List;" ss) :
    ConW FrameEnd l Z [] (⟨"java/lang/Exception", "<init>", "(Ljava/lang/String;Ljava/lang/Throwable;ZZ)V"⟩ : MethodName) jdk_59_method_5_code 5 none ({ frames := 2, cells := 0, slots := 0, locals := 28 } : Room) #[(.ref u), (.ref g), .null, (.int (0 : Int32)), (.int (0 : Int32))] h0 (fun v h L => v = none ∧ Fr n0 L ∧ Keep h0 h [u] ∧ Exa Z h u "com/example/spool/spool/http/HttpError" ∧ Fld Z h u "com/example/spool/spool/http/HttpError" "_status" "I" (.int (0 : Int32)) ∧ Fld Z h u "com/example/spool/spool/http/HttpError" "_code" "Ljava/lang/String;" .null ∧ Fld Z h u "com/example/spool/spool/http/HttpError" "_allowed" "Ljava/lang/String;" .null ∧ Fld Z h u "java/lang/Throwable" "detailMessage" "Ljava/lang/String;" (.ref g)) := by
  refine conOf (plainFor_of_name pn_java_lang_Exception) ?_
  intro p e s m below mth cc s₁ X0 hx hby hml hown hnm hret hlk hZ e0
  have N0 := Fr.nil n0
  have K0 := Keep.refl h0 ([u] : List Addr)
  refine Fin.came (castTop (t := _) (by first | (simp [entryFrame, mkF, argsToLocals, Value.category]; done) | rfl) (Steps.refl _) : Steps p.tables e below (s₁.setTop (entryFrame m #[(.ref u), (.ref g), .null, (.int (0 : Int32)), (.int (0 : Int32))] 5)) (s₁.setTop (mkF m 0 #[vr u, vr g, .val .null, vi (0 : Int32), vi (0 : Int32)] []))) ?_
  refine .go (fun _ k => XS.aloadN X0.here hx rfl (hb hby d38_0) rfl rfl k) ?_
  refine .go (fun _ k => XS.aloadN X0.here hx rfl (hb hby d38_1) rfl rfl k) ?_
  refine .go (fun _ k => XS.aloadN X0.here hx rfl (hb hby d38_2) rfl rfl k) ?_
  refine .go (fun _ k => XS.iloadN X0.here hx rfl (hb hby d38_3) rfl k) ?_
  show Fin _ _ _ _ _ _ _ _ s₁ (mkF m 4 #[vr u, vr g, .val .null, vi (0 : Int32), vi (0 : Int32)] [(.int (0 : Int32)), .null, (.ref g), (.ref u)])
  refine .go (fun _ k => XS.iload X0.here hx rfl (hb hby d38_4) rfl k) ?_
  obtain ⟨v11, T11, L11, X11, q11, st11⟩ := callCt X0 hx hZ (y := (⟨"java/lang/Throwable", "<init>", "(Ljava/lang/String;Ljava/lang/Throwable;ZZ)V"⟩ : MethodName)) rfl hown (hw _ w_191) (hw _ w_192) (hw _ w_195) (hw _ w_196) (by decide) (W := 0) (rmThr l Z a0 hw n0 h0 O u g U U0 U1 U2 U3 U4 U5 U6 nu us hus S_us ss hss S_ss) e0 (by decide) (by decide) (by decide) (by decide) (g := (mkF m 6 #[vr u, vr g, .val .null, vi (0 : Int32), vi (0 : Int32)] [(.int (0 : Int32)), (.int (0 : Int32)), .null, (.ref g), (.ref u)])) rfl (by rw [hml]; rfl) (a := u) (argsL := [(.ref g), .null, (.int (0 : Int32)), (.int (0 : Int32))]) (rest := []) (lenOf pd_oLjava_lang_String_Ljava_lang_Throwable_ZZcV rfl) rfl (wk rfl rfl) (hb hby d38_6)
  obtain ⟨rfl, Nq11, Kq11, U11, U011, U111, U211, U311⟩ := q11
  have N11 := Fr.app N0 Nq11
  have O11 := O.keep Kq11 (allS nu all0)
  have K11 := K0.trans Kq11 (allS (Or.inl (List.mem_of_getElem? (i := 0) rfl)) all0)
  refine Fin.go st11 ?_
  show Fin _ _ _ _ _ _ _ _ T11 (mkF m 9 #[vr u, vr g, .val .null, vi (0 : Int32), vi (0 : Int32)] [])
  exact Fin.leaveN X11 (rfl : T11.heap = T11.heap) hlk (v := none) (fun _ => rfl) (by decide) (by decide) ⟨rfl, N11, K11, U11, U011, U111, U211, U311⟩ (fun fs hr => X11.returnOut hx hret (hb hby d38_9) hr)
theorem rmHE (l : Launch) (Z : State) (a0 : Array Value) (hw : HW a0 Z) (n0 : Nat) (h0 : Heap) (O : Old Z n0 h0) (u g ck : Addr) (U : Exa Z h0 u "com/example/spool/spool/http/HttpError") (U0 : Fld Z h0 u "com/example/spool/spool/http/HttpError" "_status" "I" (.int (0 : Int32))) (U1 : Fld Z h0 u "com/example/spool/spool/http/HttpError" "_code" "Ljava/lang/String;" .null) (U2 : Fld Z h0 u "com/example/spool/spool/http/HttpError" "_allowed" "Ljava/lang/String;" .null) (U3 : Fld Z h0 u "java/lang/Throwable" "detailMessage" "Ljava/lang/String;" .null) (U4 : Fld Z h0 u "java/lang/Throwable" "cause" "Ljava/lang/Throwable;" .null) (U5 : Fld Z h0 u "java/lang/Throwable" "stackTrace" "[Ljava/lang/StackTraceElement;" .null) (U6 : Fld Z h0 u "java/lang/Throwable" "suppressedExceptions" "Ljava/util/List;" .null) (nu : n0 ≤ u) (us : Value) (hus : us.isRef = true) (S_us : Sta Z Z.heap "java/lang/Throwable" "UNASSIGNED_STACK" "[Ljava/lang/StackTraceElement;" us) (ss : Value) (hss : ss.isRef = true) (S_ss : Sta Z Z.heap "java/lang/Throwable" "SUPPRESSED_SENTINEL" "Ljava/util/List;" ss) :
    ConW FrameEnd l Z [] (⟨"com/example/spool/spool/http/HttpError", "<init>", "(ILjava/lang/String;Ljava/lang/String;)V"⟩ : MethodName) prog_2_method_9_code 4 none ({ frames := 3, cells := 0, slots := 0, locals := 44 } : Room) #[(.ref u), (.int (405 : Int32)), (.ref ck), (.ref g)] h0 (fun v h L => v = none ∧ Fr n0 L ∧ Keep h0 h [u] ∧ Exa Z h u "com/example/spool/spool/http/HttpError" ∧ Fld Z h u "com/example/spool/spool/http/HttpError" "_status" "I" (.int (405 : Int32)) ∧ Fld Z h u "com/example/spool/spool/http/HttpError" "_code" "Ljava/lang/String;" (.ref ck) ∧ Fld Z h u "com/example/spool/spool/http/HttpError" "_allowed" "Ljava/lang/String;" .null ∧ Fld Z h u "java/lang/Throwable" "detailMessage" "Ljava/lang/String;" (.ref g)) := by
  refine conOf (plainFor_of_name pn_com_example_spool_spool_http_HttpError) ?_
  intro p e s m below mth cc s₁ X0 hx hby hml hown hnm hret hlk hZ e0
  have N0 := Fr.nil n0
  have K0 := Keep.refl h0 ([u] : List Addr)
  refine Fin.came (castTop (t := _) (by first | (simp [entryFrame, mkF, argsToLocals, Value.category]; done) | rfl) (Steps.refl _) : Steps p.tables e below (s₁.setTop (entryFrame m #[(.ref u), (.int (405 : Int32)), (.ref ck), (.ref g)] 4)) (s₁.setTop (mkF m 0 #[vr u, vi (405 : Int32), vr ck, vr g] []))) ?_
  refine .go (fun _ k => XS.aloadN X0.here hx rfl (hb hby d37_0) rfl rfl k) ?_
  refine .go (fun _ k => XS.aloadN X0.here hx rfl (hb hby d37_1) rfl rfl k) ?_
  refine .go (fun _ k => XS.aconstNull X0.here hx rfl (hb hby d37_2) k) ?_
  refine .go (fun _ k => XS.iconst X0.here hx rfl (hb hby d37_3) k) ?_
  show Fin _ _ _ _ _ _ _ _ s₁ (mkF m 4 #[vr u, vi (405 : Int32), vr ck, vr g] [(.int (0 : Int32)), .null, (.ref g), (.ref u)])
  refine .go (fun _ k => XS.iconst X0.here hx rfl (hb hby d37_4) k) ?_
  obtain ⟨v11, T11, L11, X11, q11, st11⟩ := callCt X0 hx hZ (y := (⟨"java/lang/Exception", "<init>", "(Ljava/lang/String;Ljava/lang/Throwable;ZZ)V"⟩ : MethodName)) rfl hown (hw _ w_186) (hw _ w_187) (hw _ w_189) (hw _ w_190) (by decide) (W := 0) (rmExc l Z a0 hw n0 h0 O u g U U0 U1 U2 U3 U4 U5 U6 nu us hus S_us ss hss S_ss) e0 (by decide) (by decide) (by decide) (by decide) (g := (mkF m 5 #[vr u, vi (405 : Int32), vr ck, vr g] [(.int (0 : Int32)), (.int (0 : Int32)), .null, (.ref g), (.ref u)])) rfl (by rw [hml]; rfl) (a := u) (argsL := [(.ref g), .null, (.int (0 : Int32)), (.int (0 : Int32))]) (rest := []) (lenOf pd_oLjava_lang_String_Ljava_lang_Throwable_ZZcV rfl) rfl (wk rfl rfl) (hb hby d37_5)
  obtain ⟨rfl, Nq11, Kq11, U11, U011, U111, U211, U311⟩ := q11
  have N11 := Fr.app N0 Nq11
  have O11 := O.keep Kq11 (allS nu all0)
  have K11 := K0.trans Kq11 (allS (Or.inl (List.mem_of_getElem? (i := 0) rfl)) all0)
  refine Fin.go st11 ?_
  show Fin _ _ _ _ _ _ _ _ T11 (mkF m 8 #[vr u, vi (405 : Int32), vr ck, vr g] [])
  refine .go (fun _ k => XS.aloadN X11.here hx rfl (hb hby d37_8) rfl rfl k) ?_
  refine .go (fun _ k => XS.iloadN X11.here hx rfl (hb hby d37_9) rfl k) ?_
  obtain ⟨T12, h12, X12, e12, W12, st12⟩ := putF X11 hx hZ hown (host := "") (Or.inl (hw _ w_208)) Via.refl (rfl : T11.heap = T11.heap) U011 U11 (Or.inr ⟨(hw _ w_209), rfl, hnm⟩) (hw _ w_50) (ty := .int) (by decide) rfl rfl (g := (mkF m 10 #[vr u, vi (405 : Int32), vr ck, vr g] [(.int (405 : Int32)), (.ref u)])) rfl rfl (hb hby d37_10)
  refine Fin.go st12 ?_
  have N12 := Fr.snoc X12 N11 nu
  have O12 := O11.wr W12 nu
  have K12 := K11.wr W12 (Or.inl (List.mem_of_getElem? (i := 0) rfl))
  have F12_u__code := (U111.other W12 (Or.inr (slot_ne (Or.inr (hw _ w_211)) (Or.inr (hw _ w_209)) (by decide) (t := (.object "java/lang/String")) (t' := .int) (by decide) (by decide))))
  have F12_u__allowed := (U211.other W12 (Or.inr (slot_ne (Or.inl (hw _ w_213)) (Or.inr (hw _ w_209)) (by decide) (t := (.object "java/lang/String")) (t' := .int) (by decide) (by decide))))
  have F12_u_detailMessage := (U311.other W12 (Or.inr (slot_ne (Or.inl (hw _ w_207)) (Or.inr (hw _ w_209)) (by decide) (t := (.object "java/lang/String")) (t' := .int) (by decide) (by decide))))
  show Fin _ _ _ _ _ _ _ _ T12 (mkF m 13 #[vr u, vi (405 : Int32), vr ck, vr g] [])
  refine .go (fun _ k => XS.aloadN X12.here hx rfl (hb hby d37_13) rfl rfl k) ?_
  refine .go (fun _ k => XS.aloadN X12.here hx rfl (hb hby d37_14) rfl rfl k) ?_
  obtain ⟨T13, h13, X13, e13, W13, st13⟩ := putF X12 hx hZ hown (host := "") (Or.inl (hw _ w_210)) Via.refl e12 F12_u__code (U11.wr W12) (Or.inr ⟨(hw _ w_211), rfl, hnm⟩) (hw _ w_50) (ty := (.object "java/lang/String")) (by decide) rfl rfl (g := (mkF m 15 #[vr u, vi (405 : Int32), vr ck, vr g] [(.ref ck), (.ref u)])) rfl rfl (hb hby d37_15)
  refine Fin.go st13 ?_
  have N13 := Fr.snoc X13 N12 nu
  have O13 := O12.wr W13 nu
  have K13 := K12.wr W13 (Or.inl (List.mem_of_getElem? (i := 0) rfl))
  have F13_u__status := ((U011.same W12).other W13 (Or.inr (slot_ne (Or.inr (hw _ w_209)) (Or.inr (hw _ w_211)) (by decide) (t := .int) (t' := (.object "java/lang/String")) (by decide) (by decide))))
  have F13_u__allowed := (F12_u__allowed.other W13 (Or.inr (slot_ne (Or.inl (hw _ w_213)) (Or.inr (hw _ w_211)) (by decide) (t := (.object "java/lang/String")) (t' := (.object "java/lang/String")) (by decide) (by decide))))
  have F13_u_detailMessage := (F12_u_detailMessage.other W13 (Or.inr (slot_ne (Or.inl (hw _ w_207)) (Or.inr (hw _ w_211)) (by decide) (t := (.object "java/lang/String")) (t' := (.object "java/lang/String")) (by decide) (by decide))))
  show Fin _ _ _ _ _ _ _ _ T13 (mkF m 18 #[vr u, vi (405 : Int32), vr ck, vr g] [])
  exact Fin.leaveN X13 e13 hlk (v := none) (fun _ => rfl) (by decide) (by decide) ⟨rfl, N13, K13, ((U11.wr W12).wr W13), F13_u__status, (F12_u__code.same W13), F13_u__allowed, F13_u_detailMessage⟩ (fun fs hr => X13.returnOut hx hret (hb hby d37_18) hr)
theorem rmGa (l : Launch) (Z : State) (a0 : Array Value) (hw : HW a0 Z) (n0 : Nat) (h0 : Heap) (O : Old Z n0 h0) (u x : Addr) (F : Fld Z h0 u "com/example/spool/spool/http/HttpError" "_allowed" "Ljava/lang/String;" (.ref x)) :
    ConW FrameEnd l Z [] (⟨"com/example/spool/spool/http/HttpError", "allowed", "()Ljava/lang/String;"⟩ : MethodName) prog_2_method_12_code 1 (some (.object "java/lang/String")) ({ frames := 0, cells := 0, slots := 0, locals := 0 } : Room) #[(.ref u)] h0 (Pure h0 (some (.ref x))) := by
  refine conOf (plainFor_of_name pn_com_example_spool_spool_http_HttpError) ?_
  intro p e s m below mth cc s₁ X0 hx hby hml hown hnm hret hlk hZ e0
  have N0 := Fr.nil n0
  refine Fin.came (castTop (t := _) (by first | (simp [entryFrame, mkF, argsToLocals, Value.category]; done) | rfl) (Steps.refl _) : Steps p.tables e below (s₁.setTop (entryFrame m #[(.ref u)] 1)) (s₁.setTop (mkF m 0 #[vr u] []))) ?_
  refine .go (fun _ k => XS.aloadN X0.here hx rfl (hb hby d40_0) rfl rfl k) ?_
  obtain ⟨T11, X11, e11, st11⟩ := getF X0 hx hZ hown (host := "") (Or.inl (hw _ w_212)) Via.refl e0 F (g := (mkF m 1 #[vr u] [(.ref u)])) rfl rfl (hb hby d40_1)
  refine Fin.go st11 ?_
  show Fin _ _ _ _ _ _ _ _ T11 (mkF m 4 #[vr u] [(.ref x)])
  exact Fin.leaveN X11 e11 hlk (v := some (.ref x)) (nvS hret) (by decide) (by decide) ⟨rfl, rfl, rfl⟩ (fun fs hr => retOut X11 hx hret rfl (Or.inr (Or.inr (Or.inr (Or.inr ⟨rfl, rfl, rfl⟩)))) (hb hby d40_4) hr)
theorem rmGm (l : Launch) (Z : State) (a0 : Array Value) (hw : HW a0 Z) (n0 : Nat) (h0 : Heap) (O : Old Z n0 h0) (u x : Addr) (F : Fld Z h0 u "java/lang/Throwable" "detailMessage" "Ljava/lang/String;" (.ref x)) :
    ConW FrameEnd l Z [] (⟨"java/lang/Throwable", "getMessage", "()Ljava/lang/String;"⟩ : MethodName) jdk_78_method_6_code 1 (some (.object "java/lang/String")) ({ frames := 0, cells := 0, slots := 0, locals := 0 } : Room) #[(.ref u)] h0 (Pure h0 (some (.ref x))) := by
  refine conOf (plainFor_of_name pn_java_lang_Throwable) ?_
  intro p e s m below mth cc s₁ X0 hx hby hml hown hnm hret hlk hZ e0
  have N0 := Fr.nil n0
  refine Fin.came (castTop (t := _) (by first | (simp [entryFrame, mkF, argsToLocals, Value.category]; done) | rfl) (Steps.refl _) : Steps p.tables e below (s₁.setTop (entryFrame m #[(.ref u)] 1)) (s₁.setTop (mkF m 0 #[vr u] []))) ?_
  refine .go (fun _ k => XS.aloadN X0.here hx rfl (hb hby d41_0) rfl rfl k) ?_
  obtain ⟨T11, X11, e11, st11⟩ := getF X0 hx hZ hown (host := "") (Or.inl (hw _ w_206)) Via.refl e0 F (g := (mkF m 1 #[vr u] [(.ref u)])) rfl rfl (hb hby d41_1)
  refine Fin.go st11 ?_
  show Fin _ _ _ _ _ _ _ _ T11 (mkF m 4 #[vr u] [(.ref x)])
  exact Fin.leaveN X11 e11 hlk (v := some (.ref x)) (nvS hret) (by decide) (by decide) ⟨rfl, rfl, rfl⟩ (fun fs hr => retOut X11 hx hret rfl (Or.inr (Or.inr (Or.inr (Or.inr ⟨rfl, rfl, rfl⟩)))) (hb hby d41_4) hr)
theorem rmGs (l : Launch) (Z : State) (a0 : Array Value) (hw : HW a0 Z) (n0 : Nat) (h0 : Heap) (O : Old Z n0 h0) (u x : Addr) (F : Fld Z h0 u "com/example/spool/spool/http/HttpError" "_status" "I" (.int (405 : Int32))) :
    ConW FrameEnd l Z [] (⟨"com/example/spool/spool/http/HttpError", "status", "()I"⟩ : MethodName) prog_2_method_10_code 1 (some .int) ({ frames := 0, cells := 0, slots := 0, locals := 0 } : Room) #[(.ref u)] h0 (Pure h0 (some (.int (405 : Int32)))) := by
  refine conOf (plainFor_of_name pn_com_example_spool_spool_http_HttpError) ?_
  intro p e s m below mth cc s₁ X0 hx hby hml hown hnm hret hlk hZ e0
  have N0 := Fr.nil n0
  refine Fin.came (castTop (t := _) (by first | (simp [entryFrame, mkF, argsToLocals, Value.category]; done) | rfl) (Steps.refl _) : Steps p.tables e below (s₁.setTop (entryFrame m #[(.ref u)] 1)) (s₁.setTop (mkF m 0 #[vr u] []))) ?_
  refine .go (fun _ k => XS.aloadN X0.here hx rfl (hb hby d42_0) rfl rfl k) ?_
  obtain ⟨T11, X11, e11, st11⟩ := getF X0 hx hZ hown (host := "") (Or.inl (hw _ w_208)) Via.refl e0 F (g := (mkF m 1 #[vr u] [(.ref u)])) rfl rfl (hb hby d42_1)
  refine Fin.go st11 ?_
  show Fin _ _ _ _ _ _ _ _ T11 (mkF m 4 #[vr u] [(.int (405 : Int32))])
  exact Fin.leaveN X11 e11 hlk (v := some (.int (405 : Int32))) (nvS hret) (by decide) (by decide) ⟨rfl, rfl, rfl⟩ (fun fs hr => retI X11 hx hret (hb hby d42_4) hr)
theorem rmGc (l : Launch) (Z : State) (a0 : Array Value) (hw : HW a0 Z) (n0 : Nat) (h0 : Heap) (O : Old Z n0 h0) (u x : Addr) (F : Fld Z h0 u "com/example/spool/spool/http/HttpError" "_code" "Ljava/lang/String;" (.ref x)) :
    ConW FrameEnd l Z [] (⟨"com/example/spool/spool/http/HttpError", "code", "()Ljava/lang/String;"⟩ : MethodName) prog_2_method_11_code 1 (some (.object "java/lang/String")) ({ frames := 0, cells := 0, slots := 0, locals := 0 } : Room) #[(.ref u)] h0 (Pure h0 (some (.ref x))) := by
  refine conOf (plainFor_of_name pn_com_example_spool_spool_http_HttpError) ?_
  intro p e s m below mth cc s₁ X0 hx hby hml hown hnm hret hlk hZ e0
  have N0 := Fr.nil n0
  refine Fin.came (castTop (t := _) (by first | (simp [entryFrame, mkF, argsToLocals, Value.category]; done) | rfl) (Steps.refl _) : Steps p.tables e below (s₁.setTop (entryFrame m #[(.ref u)] 1)) (s₁.setTop (mkF m 0 #[vr u] []))) ?_
  refine .go (fun _ k => XS.aloadN X0.here hx rfl (hb hby d43_0) rfl rfl k) ?_
  obtain ⟨T11, X11, e11, st11⟩ := getF X0 hx hZ hown (host := "") (Or.inl (hw _ w_210)) Via.refl e0 F (g := (mkF m 1 #[vr u] [(.ref u)])) rfl rfl (hb hby d43_1)
  refine Fin.go st11 ?_
  show Fin _ _ _ _ _ _ _ _ T11 (mkF m 4 #[vr u] [(.ref x)])
  exact Fin.leaveN X11 e11 hlk (v := some (.ref x)) (nvS hret) (by decide) (by decide) ⟨rfl, rfl, rfl⟩ (fun fs hr => retOut X11 hx hret rfl (Or.inr (Or.inr (Or.inr (Or.inr ⟨rfl, rfl, rfl⟩)))) (hb hby d43_4) hr)
theorem rmMNA (l : Launch) (Z : State) (a0 : Array Value) (hw : HW a0 Z) (n0 : Nat) (h0 : Heap) (O : Old Z n0 h0) (a : Addr) (co : Int32) (ys : List Int32) (B : Nat) (hy3 : ys.length ≤ 3) (hcL : ChL ys) (FA : SX Z h0 a co ys B) (cs : Int32) (S_cs : Sta Z Z.heap "java/lang/String" "COMPACT_STRINGS" "Z" (.int cs)) (hcs : ¬ cs = 0) (S_as : SAs Z) (S_hb : SHb Z) (S_lb : SLb Z) (fm : Value) (hfm : fm.isRef = true) (S_fm : SFm Z fm) (us : Value) (hus : us.isRef = true) (S_us : Sta Z Z.heap "java/lang/Throwable" "UNASSIGNED_STACK" "[Ljava/lang/StackTraceElement;" us) (ss : Value) (hss : ss.isRef = true) (S_ss : Sta Z Z.heap "java/lang/Throwable" "SUPPRESSED_SENTINEL" "Ljava/util/List;" ss) :
    ConHW l Z EL [] (⟨"com/example/spool/spool/http/HttpError", "methodNotAllowed", "(Ljava/lang/String;)Lcom/example/spool/spool/http/HttpError;"⟩ : MethodName) prog_2_method_8_code 2 (some (.object "com/example/spool/spool/http/HttpError")) ({ frames := 10, cells := 14, slots := 853, locals := 147 } : Room) #[(.ref a)] h0 (fun v h L => ∃ u ck g cg, v = some (.ref u) ∧ Fr n0 L ∧ Keep h0 h [] ∧ Exa Z h u "com/example/spool/spool/http/HttpError" ∧ Fld Z h u "com/example/spool/spool/http/HttpError" "_status" "I" (.int (405 : Int32)) ∧ Fld Z h u "com/example/spool/spool/http/HttpError" "_code" "Ljava/lang/String;" (.ref ck) ∧ Fld Z h u "com/example/spool/spool/http/HttpError" "_allowed" "Ljava/lang/String;" (.ref a) ∧ Fld Z h u "java/lang/Throwable" "detailMessage" "Ljava/lang/String;" (.ref g) ∧ SX Z h ck 0 tCode h.size ∧ SX Z h g cg ((tPre ++ ys) ++ tPost) h.size) := by
  refine conOfH (plainFor_of_name pn_com_example_spool_spool_http_HttpError) ?_
  intro p e s m below mth cc s₁ X0 hx hby hml hown hnm hret hlk hZ e0 hS RR0
  have N0 := Fr.nil n0
  have hEL := elW hw
  have K0 := Keep.refl h0 ([] : List Addr)
  refine Fin.came (castTop (t := _) (by first | (simp [entryFrame, mkF, argsToLocals, Value.category]; done) | rfl) (Steps.refl _) : Steps p.tables e below (s₁.setTop (entryFrame m #[(.ref a)] 2)) (s₁.setTop (mkF m 0 #[vr a, .unset] []))) ?_
  obtain ⟨T11, h11, X11, e11, E11, A11, D11, U11, st11⟩ := newO X0 hx hZ hown (hw _ w_49) (hw _ w_50) (hw _ w_47) e0 (g := (mkF m 0 #[vr a, .unset] [])) rfl (hb hby d11_0) (by decide) (by decide)
  obtain ⟨a11, g11⟩ : ∃ z, z = h0.size := ⟨_, rfl⟩
  rw [← g11] at A11 D11 U11 st11
  refine Fin.go st11 ?_
  have O11 := O.ext E11
  have K11 := K0.ext E11
  have hk11 := Nat.le_trans (Nat.zero_le _) E11.1
  have RR11 := RR0.trans (CHr.ext E11 RR0.1)
  have n11 : n0 ≤ a11 := by have := O.2.1; have := O.1; omega
  have z11 : h0.size ≤ a11 := by have := K0.1; omega
  have F11_cause : Fld Z h11 a11 "java/lang/Throwable" "cause" "Ljava/lang/Throwable;" .null := D11 (Or.inl (hw _ w_199)) (ty := (.object "java/lang/Throwable")) (by decide)
  have F11_stackTrace : Fld Z h11 a11 "java/lang/Throwable" "stackTrace" "[Ljava/lang/StackTraceElement;" .null := D11 (Or.inl (hw _ w_202)) (ty := (.array (.object "java/lang/StackTraceElement"))) (by decide)
  have F11_suppressedExceptions : Fld Z h11 a11 "java/lang/Throwable" "suppressedExceptions" "Ljava/util/List;" .null := D11 (Or.inl (hw _ w_205)) (ty := (.object "java/util/List")) (by decide)
  have F11_detailMessage : Fld Z h11 a11 "java/lang/Throwable" "detailMessage" "Ljava/lang/String;" .null := D11 (Or.inl (hw _ w_207)) (ty := (.object "java/lang/String")) (by decide)
  have F11__status : Fld Z h11 a11 "com/example/spool/spool/http/HttpError" "_status" "I" (.int (0 : Int32)) := D11 (Or.inr (hw _ w_209)) (ty := .int) (by decide)
  have F11__code : Fld Z h11 a11 "com/example/spool/spool/http/HttpError" "_code" "Ljava/lang/String;" .null := D11 (Or.inr (hw _ w_211)) (ty := (.object "java/lang/String")) (by decide)
  have F11__allowed : Fld Z h11 a11 "com/example/spool/spool/http/HttpError" "_allowed" "Ljava/lang/String;" .null := D11 (Or.inl (hw _ w_213)) (ty := (.object "java/lang/String")) (by decide)
  show Fin _ _ _ _ _ _ _ _ T11 (mkF m 3 #[vr a, .unset] [(.ref a11)])
  have sf12 : Safe Z EL s.vm h11 a11 := (Safe.exa hZ.alike A11 (by decide) (by decide))
  refine .go (fun _ k => XS.dup X11.here hx rfl (hb hby d11_3) rfl rfl k) ?_
  refine .go (fun _ k => XS.sipush X11.here hx rfl (hb hby d11_4) k) ?_
  show Fin _ _ _ _ _ _ _ _ T11 (mkF m 7 #[vr a, .unset] [(.int (405 : Int32)), (.ref a11), (.ref a11)])
  obtain ⟨a13, T13, h13, k13, b13, kb13, X13, e13, E13, hS13, hj13, hZ13, hown13, A13, C13, F13, V13, l113, l213, RC13, lt13, ns13, st13⟩ := ldcCH X11 hx hZ hown (hw _ w_51) (strW hw) e11 hS hk11 hEL (by decide) RR11.1 (vs := [(.int (109 : Int32)), (.int (101 : Int32)), (.int (116 : Int32)), (.int (104 : Int32)), (.int (111 : Int32)), (.int (100 : Int32)), (.int (95 : Int32)), (.int (110 : Int32)), (.int (111 : Int32)), (.int (116 : Int32)), (.int (95 : Int32)), (.int (97 : Int32)), (.int (108 : Int32)), (.int (108 : Int32)), (.int (111 : Int32)), (.int (119 : Int32)), (.int (101 : Int32)), (.int (100 : Int32))]) (z := (18 : Int32)) (by decide +kernel) (by decide) (by decide) (g := (mkF m 7 #[vr a, .unset] [(.int (405 : Int32)), (.ref a11), (.ref a11)])) rfl (hb hby d11_7) (n := 72) (by decide) (by decide) (by decide) (by decide)
  refine Fin.go st13 ?_
  have O13 := O11.ext E13
  have K13 := K11.ext E13
  have RR13 := RR11.trans RC13
  show Fin _ _ _ _ _ _ _ _ T13 (mkF m 9 #[vr a, .unset] [(.ref a13), (.int (405 : Int32)), (.ref a11), (.ref a11)])
  obtain ⟨T14, h14, X14, e14, E14, A14, D14, U14, st14⟩ := newO X13 hx hZ13 hown13 (hw _ w_54) (hw _ w_55) (hw _ w_56) e13 (g := (mkF m 9 #[vr a, .unset] [(.ref a13), (.int (405 : Int32)), (.ref a11), (.ref a11)])) rfl (hb hby d11_9) (by decide) (by decide)
  obtain ⟨a14, g14⟩ : ∃ z, z = h13.size := ⟨_, rfl⟩
  rw [← g14] at A14 D14 U14 st14
  refine Fin.go st14 ?_
  have O14 := O13.ext E14
  have K14 := K13.ext E14
  have hk14 := Nat.le_trans hj13 E14.1
  have RR14 := RR13.trans (CHr.ext E14 RR13.1)
  have n14 : n0 ≤ a14 := by have := O13.2.1; have := O13.1; omega
  have z14 : h0.size ≤ a14 := by have := K13.1; omega
  have F14_value : Fld Z h14 a14 "java/lang/AbstractStringBuilder" "value" "[B" .null := D14 (Or.inl (hw _ w_69)) (ty := (.array .byte)) (by decide)
  have F14_coder : Fld Z h14 a14 "java/lang/AbstractStringBuilder" "coder" "B" (.int (0 : Int32)) := D14 (Or.inl (hw _ w_71)) (ty := .byte) (by decide)
  have F14_count : Fld Z h14 a14 "java/lang/AbstractStringBuilder" "count" "I" (.int (0 : Int32)) := D14 (Or.inl (hw _ w_94)) (ty := .int) (by decide)
  have F14_maybeLatin1 : Fld Z h14 a14 "java/lang/AbstractStringBuilder" "maybeLatin1" "Z" (.int (0 : Int32)) := D14 (Or.inl (hw _ w_294)) (ty := .boolean) (by decide)
  show Fin _ _ _ _ _ _ _ _ T14 (mkF m 12 #[vr a, .unset] [(.ref a14), (.ref a13), (.int (405 : Int32)), (.ref a11), (.ref a11)])
  refine .go (fun _ k => XS.dup X14.here hx rfl (hb hby d11_12) rfl rfl k) ?_
  obtain ⟨v15, T15, L15, X15, q15, st15⟩ := callCt X14 hx hZ13 (y := (⟨"java/lang/StringBuilder", "<init>", "()V"⟩ : MethodName)) rfl hown13 (hw _ w_57) (hw _ w_58) (hw _ w_56) (hw _ w_59) (by decide) (W := 5) (rmSI l Z a0 hw n0 h14 O14 a14 A14 F14_value F14_coder F14_count F14_maybeLatin1 n14 cs S_cs hcs) e14 (by decide) (by decide) (by decide) (by decide) (g := (mkF m 13 #[vr a, .unset] [(.ref a14), (.ref a14), (.ref a13), (.int (405 : Int32)), (.ref a11), (.ref a11)])) rfl (by rw [hml]; rfl) (a := a14) (argsL := []) (rest := [(.ref a14), (.ref a13), (.int (405 : Int32)), (.ref a11), (.ref a11)]) (lenOf pd_ocV rfl) rfl (wk rfl rfl) (hb hby d11_13)
  obtain ⟨rfl, Nq15, Kq15, d15, kd15, zd15, FS15⟩ := q15
  have N15 := Fr.app N0 Nq15
  have O15 := O14.keep Kq15 (allS n14 all0)
  have K15 := K14.trans Kq15 (allS (Or.inr z14) all0)
  have RR15 := RR14.trans (CHr.keep Kq15 (sfS (Safe.exa hZ13.alike A14 (by decide) (by decide)) sf0) RR14.1)
  have hk15 := Nat.le_trans hk14 Kq15.1
  refine Fin.go st15 ?_
  have Z15_a := ((((FA.ext E11).ext E13).ext E14).keep Kq15 (allS (Nat.le_trans ((FA.ext E11).ext E13).le (Nat.le_of_eq g14.symm)) all0))
  have F15_a11_cause := (((F11_cause.ext E13).ext E14).keep Kq15 (ninS (Nat.ne_of_lt (Nat.lt_of_lt_of_eq (A11.ext E13).lt g14.symm)) nin0))
  have F15_a11_stackTrace := (((F11_stackTrace.ext E13).ext E14).keep Kq15 (ninS (Nat.ne_of_lt (Nat.lt_of_lt_of_eq (A11.ext E13).lt g14.symm)) nin0))
  have F15_a11_suppressedExceptions := (((F11_suppressedExceptions.ext E13).ext E14).keep Kq15 (ninS (Nat.ne_of_lt (Nat.lt_of_lt_of_eq (A11.ext E13).lt g14.symm)) nin0))
  have F15_a11_detailMessage := (((F11_detailMessage.ext E13).ext E14).keep Kq15 (ninS (Nat.ne_of_lt (Nat.lt_of_lt_of_eq (A11.ext E13).lt g14.symm)) nin0))
  have F15_a11__status := (((F11__status.ext E13).ext E14).keep Kq15 (ninS (Nat.ne_of_lt (Nat.lt_of_lt_of_eq (A11.ext E13).lt g14.symm)) nin0))
  have F15_a11__code := (((F11__code.ext E13).ext E14).keep Kq15 (ninS (Nat.ne_of_lt (Nat.lt_of_lt_of_eq (A11.ext E13).lt g14.symm)) nin0))
  have F15_a11__allowed := (((F11__allowed.ext E13).ext E14).keep Kq15 (ninS (Nat.ne_of_lt (Nat.lt_of_lt_of_eq (A11.ext E13).lt g14.symm)) nin0))
  have sf15_a11 := (Safe.keep Kq15 (sfS (Safe.exa hZ13.alike A14 (by decide) (by decide)) sf0) RR14.1 ((CHr.safe RC13 A11.lt sf12).ext E14 RR13.1))
  have F15_a13_coder := ((C13.ext E14).keep Kq15 (ninS (Nat.ne_of_lt (Nat.lt_of_lt_of_eq A13.lt g14.symm)) nin0))
  have F15_a13_value := ((F13.ext E14).keep Kq15 (ninS (Nat.ne_of_lt (Nat.lt_of_lt_of_eq A13.lt g14.symm)) nin0))
  have V15_b13 := ((V13.ext E14).keep Kq15 (ninS (Nat.ne_of_lt (Nat.lt_of_lt_of_eq V13.lt g14.symm)) nin0))
  show Fin _ _ _ _ _ _ _ _ T15 (mkF m 16 #[vr a, .unset] [(.ref a14), (.ref a13), (.int (405 : Int32)), (.ref a11), (.ref a11)])
  have nzd15 : n0 ≤ d15 := Nat.le_trans (by have := O14.1; have := O14.2.1; omega) zd15
  have hzd15 : h0.size ≤ d15 := Nat.le_trans K14.1 zd15
  have sd15 := Safe.keep Kq15 (sfS (Safe.exa hZ13.alike A14 (by decide) (by decide)) sf0) RR14.1 (Safe.new (Z := Z) (EL := EL) (vm := T13.vm) zd15)
  have sf16 : Safe Z EL T13.vm T15.heap a14 := (Safe.exa hZ13.alike FS15.exa (by decide) (by decide))
  obtain ⟨a17, T17, h17, k17, b17, kb17, X17, e17, E17, hS17, hj17, hZ17, hown17, A17, C17, F17, V17, l117, l217, RC17, lt17, ns17, st17⟩ := ldcCH X15 hx hZ13 hown13 (hw _ w_72) (strW hw) (rfl : T15.heap = T15.heap) hS13 hk15 hEL (by decide) RR15.1 (vs := [(.int (84 : Int32)), (.int (104 : Int32)), (.int (105 : Int32)), (.int (115 : Int32)), (.int (32 : Int32)), (.int (112 : Int32)), (.int (97 : Int32)), (.int (116 : Int32)), (.int (104 : Int32)), (.int (32 : Int32)), (.int (97 : Int32)), (.int (110 : Int32)), (.int (115 : Int32)), (.int (119 : Int32)), (.int (101 : Int32)), (.int (114 : Int32)), (.int (115 : Int32)), (.int (32 : Int32))]) (z := (18 : Int32)) (by decide +kernel) (by decide) (by decide) (g := (mkF m 16 #[vr a, .unset] [(.ref a14), (.ref a13), (.int (405 : Int32)), (.ref a11), (.ref a11)])) rfl (hb hby d11_16) (n := 72) (by decide) (by decide) (by decide) (by decide)
  refine Fin.go st17 ?_
  have O17 := O15.ext E17
  have K17 := K15.ext E17
  have RR17 := RR15.trans RC17
  have sf17_a11 := (CHr.safe RC17 (((A11.ext E13).ext E14).keep Kq15).lt sf15_a11)
  show Fin _ _ _ _ _ _ _ _ T17 (mkF m 18 #[vr a, .unset] [(.ref a17), (.ref a14), (.ref a13), (.int (405 : Int32)), (.ref a11), (.ref a11)])
  obtain ⟨v18, T18, L18, X18, q18, st18⟩ := callVt X17 hx hZ17 (y := (⟨"java/lang/StringBuilder", "append", "(Ljava/lang/String;)Ljava/lang/StringBuilder;"⟩ : MethodName)) hown17 (hw _ w_73) (hw _ w_74) (hw _ w_76) (hw _ w_75) (hw _ w_56) (hw _ w_77) (by decide) (W := 4) (rmSA l Z a0 hw n0 h17 O17 a14 d15 a17 b17 kd15 kb17 [] tPre 0 16 34 (Or.inr ⟨rfl, rfl, rfl, rfl, latPre⟩) (by decide) (Or.inl latN) (fun k hk => absurd hk (Nat.not_lt_zero k)) (chG chPre) (FS15.ext E17) A17 C17 F17 (bxLit V17 rfl (by decide) rfl (by decide)) n14 nzd15 (Ne.symm (Nat.ne_of_lt (Nat.lt_of_lt_of_le F14_maybeLatin1.lt zd15))) (Ne.symm (ns17 _ (CHr.safe RC17 FS15.exa.lt sf16)).1) (Ne.symm (ns17 _ (CHr.safe RC17 FS15.exa.lt sf16)).2) (Ne.symm (ns17 _ (CHr.safe RC17 FS15.alt sd15)).2) cs S_cs hcs S_as S_hb S_lb fm hfm S_fm) e17 (FS15.ext E17).exa (by decide) (by decide) (by decide) (by decide) (g := (mkF m 18 #[vr a, .unset] [(.ref a17), (.ref a14), (.ref a13), (.int (405 : Int32)), (.ref a11), (.ref a11)])) rfl (by rw [hml]; rfl) (argsL := [(.ref a17)]) (rest := [(.ref a13), (.int (405 : Int32)), (.ref a11), (.ref a11)]) (lenOf pd_oLjava_lang_String_cLjava_lang_StringBuilder_ rfl) rfl (wk rfl rfl) (hb hby d11_18)
  obtain ⟨rfl, Nq18, Kq18, d18, kd18, hd18, FS18⟩ := q18
  have N18 := Fr.app N15 Nq18
  have O18 := O17.keep Kq18 (allS n14 (allS nzd15 all0))
  have K18 := K17.trans Kq18 (allS (Or.inr z14) (allS (Or.inr hzd15) all0))
  have RR18 := RR17.trans (CHr.keep Kq18 (sfS (CHr.safe RC17 FS15.exa.lt sf16) (sfS (CHr.safe RC17 FS15.alt sd15) sf0)) RR17.1)
  have hk18 := Nat.le_trans hj17 Kq18.1
  refine Fin.go st18 ?_
  have Z18_a := ((Z15_a.ext E17).keep Kq18 (allS (Nat.le_trans ((FA.ext E11).ext E13).le (Nat.le_of_eq g14.symm)) (allS (Nat.le_trans (((FA.ext E11).ext E13).ext E14).le zd15) all0)))
  have F18_a11_cause := ((F15_a11_cause.ext E17).keep Kq18 (ninS (Nat.ne_of_lt (Nat.lt_of_lt_of_eq (A11.ext E13).lt g14.symm)) (ninS (Nat.ne_of_lt (Nat.lt_of_lt_of_le ((F11__allowed.ext E13).ext E14).lt zd15)) nin0)))
  have F18_a11_stackTrace := ((F15_a11_stackTrace.ext E17).keep Kq18 (ninS (Nat.ne_of_lt (Nat.lt_of_lt_of_eq (A11.ext E13).lt g14.symm)) (ninS (Nat.ne_of_lt (Nat.lt_of_lt_of_le ((F11__allowed.ext E13).ext E14).lt zd15)) nin0)))
  have F18_a11_suppressedExceptions := ((F15_a11_suppressedExceptions.ext E17).keep Kq18 (ninS (Nat.ne_of_lt (Nat.lt_of_lt_of_eq (A11.ext E13).lt g14.symm)) (ninS (Nat.ne_of_lt (Nat.lt_of_lt_of_le ((F11__allowed.ext E13).ext E14).lt zd15)) nin0)))
  have F18_a11_detailMessage := ((F15_a11_detailMessage.ext E17).keep Kq18 (ninS (Nat.ne_of_lt (Nat.lt_of_lt_of_eq (A11.ext E13).lt g14.symm)) (ninS (Nat.ne_of_lt (Nat.lt_of_lt_of_le ((F11__allowed.ext E13).ext E14).lt zd15)) nin0)))
  have F18_a11__status := ((F15_a11__status.ext E17).keep Kq18 (ninS (Nat.ne_of_lt (Nat.lt_of_lt_of_eq (A11.ext E13).lt g14.symm)) (ninS (Nat.ne_of_lt (Nat.lt_of_lt_of_le ((F11__allowed.ext E13).ext E14).lt zd15)) nin0)))
  have F18_a11__code := ((F15_a11__code.ext E17).keep Kq18 (ninS (Nat.ne_of_lt (Nat.lt_of_lt_of_eq (A11.ext E13).lt g14.symm)) (ninS (Nat.ne_of_lt (Nat.lt_of_lt_of_le ((F11__allowed.ext E13).ext E14).lt zd15)) nin0)))
  have F18_a11__allowed := ((F15_a11__allowed.ext E17).keep Kq18 (ninS (Nat.ne_of_lt (Nat.lt_of_lt_of_eq (A11.ext E13).lt g14.symm)) (ninS (Nat.ne_of_lt (Nat.lt_of_lt_of_le ((F11__allowed.ext E13).ext E14).lt zd15)) nin0)))
  have sf18_a11 := (Safe.keep Kq18 (sfS (CHr.safe RC17 FS15.exa.lt sf16) (sfS (CHr.safe RC17 FS15.alt sd15) sf0)) RR17.1 sf17_a11)
  have F18_a13_coder := ((F15_a13_coder.ext E17).keep Kq18 (ninS (Nat.ne_of_lt (Nat.lt_of_lt_of_eq A13.lt g14.symm)) (ninS (Nat.ne_of_lt (Nat.lt_of_lt_of_le (F13.ext E14).lt zd15)) nin0)))
  have F18_a13_value := ((F15_a13_value.ext E17).keep Kq18 (ninS (Nat.ne_of_lt (Nat.lt_of_lt_of_eq A13.lt g14.symm)) (ninS (Nat.ne_of_lt (Nat.lt_of_lt_of_le (F13.ext E14).lt zd15)) nin0)))
  have V18_b13 := ((V15_b13.ext E17).keep Kq18 (ninS (Nat.ne_of_lt (Nat.lt_of_lt_of_eq V13.lt g14.symm)) (ninS (Nat.ne_of_lt (Nat.lt_of_lt_of_le (V13.ext E14).lt zd15)) nin0)))
  have sf18_d15 := (Safe.keep Kq18 (sfS (CHr.safe RC17 FS15.exa.lt sf16) (sfS (CHr.safe RC17 FS15.alt sd15) sf0)) RR17.1 (CHr.safe RC17 FS15.alt sd15))
  have sf18_a14 := (Safe.keep Kq18 (sfS (CHr.safe RC17 FS15.exa.lt sf16) (sfS (CHr.safe RC17 FS15.alt sd15) sf0)) RR17.1 (CHr.safe RC17 FS15.exa.lt sf16))
  show Fin _ _ _ _ _ _ _ _ T18 (mkF m 21 #[vr a, .unset] [(.ref a14), (.ref a13), (.int (405 : Int32)), (.ref a11), (.ref a11)])
  have sd18 : Safe Z EL T17.vm T18.heap d18 := by rcases hd18 with rfl | q; exact Safe.keep Kq18 (sfS (CHr.safe RC17 FS15.exa.lt sf16) (sfS (CHr.safe RC17 FS15.alt sd15) sf0)) RR17.1 (CHr.safe RC17 FS15.alt sd15); exact Safe.keep Kq18 (sfS (CHr.safe RC17 FS15.exa.lt sf16) (sfS (CHr.safe RC17 FS15.alt sd15) sf0)) RR17.1 (Safe.new q)
  have nd18 : n0 ≤ d18 := by rcases hd18 with rfl | q; exact nzd15; exact Nat.le_trans (by have := O17.1; have := O17.2.1; omega) q
  have hz18 : h0.size ≤ d18 := by rcases hd18 with rfl | q; exact hzd15; exact Nat.le_trans K17.1 q
  have ge18_a : B ≤ d18 := by rcases hd18 with rfl | q; exact (Nat.le_trans (((FA.ext E11).ext E13).ext E14).le zd15); exact Nat.le_trans (Z15_a.ext E17).le q
  have ne18_a11 : a11 ≠ d18 := by rcases hd18 with rfl | q; exact (Nat.ne_of_lt (Nat.lt_of_lt_of_le ((F11__allowed.ext E13).ext E14).lt zd15)); exact Nat.ne_of_lt (Nat.lt_of_lt_of_le ((((A11.ext E13).ext E14).keep Kq15).ext E17).lt q)
  have ne18_a13 : a13 ≠ d18 := by rcases hd18 with rfl | q; exact (Nat.ne_of_lt (Nat.lt_of_lt_of_le (F13.ext E14).lt zd15)); exact Nat.ne_of_lt (Nat.lt_of_lt_of_le (((A13.ext E14).keep Kq15).ext E17).lt q)
  have ne18_b13 : b13 ≠ d18 := by rcases hd18 with rfl | q; exact (Nat.ne_of_lt (Nat.lt_of_lt_of_le (V13.ext E14).lt zd15)); exact Nat.ne_of_lt (Nat.lt_of_lt_of_le (V15_b13.ext E17).lt q)
  have ne18_a14 : a14 ≠ d18 := by rcases hd18 with rfl | q; exact (Nat.ne_of_lt (Nat.lt_of_lt_of_le F14_maybeLatin1.lt zd15)); exact Nat.ne_of_lt (Nat.lt_of_lt_of_le (FS15.exa.ext E17).lt q)
  have sf19 : Safe Z EL T17.vm T18.heap a14 := sf18_a14
  refine .go (fun _ k => XS.aloadN X18.here hx rfl (hb hby d11_21) rfl rfl k) ?_
  obtain ⟨hB20, ha20, A20, C20, q20, kq20, hq20, F20, V20⟩ := id Z18_a
  obtain ⟨v21, T21, L21, X21, q21, st21⟩ := callVt X18 hx hZ17 (y := (⟨"java/lang/StringBuilder", "append", "(Ljava/lang/String;)Ljava/lang/StringBuilder;"⟩ : MethodName)) hown17 (hw _ w_73) (hw _ w_74) (hw _ w_76) (hw _ w_75) (hw _ w_56) (hw _ w_77) (by decide) (W := 4) (rmSA l Z a0 hw n0 T18.heap O18 a14 d18 a q20 kd18 kq20 tPre ys co 34 34 (Or.inl ⟨(by show 18 + ys.length ≤ 34; omega), rfl⟩) (by decide) (Or.inl latPre) (chG chPre) (chG hcL) FS18 A20 C20 F20 V20 n14 nd18 (Ne.symm ne18_a14) (Nat.ne_of_lt (Nat.lt_of_lt_of_le ha20 (Nat.le_trans ((FA.ext E11).ext E13).le (Nat.le_of_eq g14.symm)))) (Nat.ne_of_lt (Nat.lt_of_lt_of_le hq20 (Nat.le_trans ((FA.ext E11).ext E13).le (Nat.le_of_eq g14.symm)))) (Nat.ne_of_lt (Nat.lt_of_lt_of_le hq20 ge18_a)) cs S_cs hcs S_as S_hb S_lb fm hfm S_fm) (rfl : T18.heap = T18.heap) FS18.exa (by decide) (by decide) (by decide) (by decide) (g := (mkF m 22 #[vr a, .unset] [(.ref a), (.ref a14), (.ref a13), (.int (405 : Int32)), (.ref a11), (.ref a11)])) rfl (by rw [hml]; rfl) (argsL := [(.ref a)]) (rest := [(.ref a13), (.int (405 : Int32)), (.ref a11), (.ref a11)]) (lenOf pd_oLjava_lang_String_cLjava_lang_StringBuilder_ rfl) rfl (wk rfl rfl) (hb hby d11_22)
  obtain ⟨rfl, Nq21, Kq21, d21, kd21, hd21, FS21⟩ := q21
  have N21 := Fr.app N18 Nq21
  have O21 := O18.keep Kq21 (allS n14 (allS nd18 all0))
  have K21 := K18.trans Kq21 (allS (Or.inr z14) (allS (Or.inr hz18) all0))
  have RR21 := RR18.trans (CHr.keep Kq21 (sfS sf19 (sfS sd18 sf0)) RR18.1)
  have hk21 := Nat.le_trans hk18 Kq21.1
  refine Fin.go st21 ?_
  have Z21_a := (Z18_a.keep Kq21 (allS (Nat.le_trans ((FA.ext E11).ext E13).le (Nat.le_of_eq g14.symm)) (allS ge18_a all0)))
  have A21_a11 := ((((((A11.ext E13).ext E14).keep Kq15).ext E17).keep Kq18).keep Kq21)
  have F21_a11_cause := (F18_a11_cause.keep Kq21 (ninS (Nat.ne_of_lt (Nat.lt_of_lt_of_eq (A11.ext E13).lt g14.symm)) (ninS ne18_a11 nin0)))
  have F21_a11_stackTrace := (F18_a11_stackTrace.keep Kq21 (ninS (Nat.ne_of_lt (Nat.lt_of_lt_of_eq (A11.ext E13).lt g14.symm)) (ninS ne18_a11 nin0)))
  have F21_a11_suppressedExceptions := (F18_a11_suppressedExceptions.keep Kq21 (ninS (Nat.ne_of_lt (Nat.lt_of_lt_of_eq (A11.ext E13).lt g14.symm)) (ninS ne18_a11 nin0)))
  have F21_a11_detailMessage := (F18_a11_detailMessage.keep Kq21 (ninS (Nat.ne_of_lt (Nat.lt_of_lt_of_eq (A11.ext E13).lt g14.symm)) (ninS ne18_a11 nin0)))
  have F21_a11__status := (F18_a11__status.keep Kq21 (ninS (Nat.ne_of_lt (Nat.lt_of_lt_of_eq (A11.ext E13).lt g14.symm)) (ninS ne18_a11 nin0)))
  have F21_a11__code := (F18_a11__code.keep Kq21 (ninS (Nat.ne_of_lt (Nat.lt_of_lt_of_eq (A11.ext E13).lt g14.symm)) (ninS ne18_a11 nin0)))
  have F21_a11__allowed := (F18_a11__allowed.keep Kq21 (ninS (Nat.ne_of_lt (Nat.lt_of_lt_of_eq (A11.ext E13).lt g14.symm)) (ninS ne18_a11 nin0)))
  have F21_a13_coder := (F18_a13_coder.keep Kq21 (ninS (Nat.ne_of_lt (Nat.lt_of_lt_of_eq A13.lt g14.symm)) (ninS ne18_a13 nin0)))
  have F21_a13_value := (F18_a13_value.keep Kq21 (ninS (Nat.ne_of_lt (Nat.lt_of_lt_of_eq A13.lt g14.symm)) (ninS ne18_a13 nin0)))
  have V21_b13 := (V18_b13.keep Kq21 (ninS (Nat.ne_of_lt (Nat.lt_of_lt_of_eq V13.lt g14.symm)) (ninS ne18_b13 nin0)))
  show Fin _ _ _ _ _ _ _ _ T21 (mkF m 25 #[vr a, .unset] [(.ref a14), (.ref a13), (.int (405 : Int32)), (.ref a11), (.ref a11)])
  have sd21 : Safe Z EL T17.vm T21.heap d21 := by rcases hd21 with rfl | q; exact Safe.keep Kq21 (sfS sf19 (sfS sd18 sf0)) RR18.1 sd18; exact Safe.keep Kq21 (sfS sf19 (sfS sd18 sf0)) RR18.1 (Safe.new q)
  have nd21 : n0 ≤ d21 := by rcases hd21 with rfl | q; exact nd18; exact Nat.le_trans (by have := O18.1; have := O18.2.1; omega) q
  have hz21 : h0.size ≤ d21 := by rcases hd21 with rfl | q; exact hz18; exact Nat.le_trans K18.1 q
  have ge21_a : B ≤ d21 := by rcases hd21 with rfl | q; exact ge18_a; exact Nat.le_trans Z18_a.le q
  have ne21_a11 : a11 ≠ d21 := by rcases hd21 with rfl | q; exact ne18_a11; exact Nat.ne_of_lt (Nat.lt_of_lt_of_le (((((A11.ext E13).ext E14).keep Kq15).ext E17).keep Kq18).lt q)
  have ne21_a13 : a13 ≠ d21 := by rcases hd21 with rfl | q; exact ne18_a13; exact Nat.ne_of_lt (Nat.lt_of_lt_of_le ((((A13.ext E14).keep Kq15).ext E17).keep Kq18).lt q)
  have ne21_b13 : b13 ≠ d21 := by rcases hd21 with rfl | q; exact ne18_b13; exact Nat.ne_of_lt (Nat.lt_of_lt_of_le V18_b13.lt q)
  have ne21_a14 : a14 ≠ d21 := by rcases hd21 with rfl | q; exact ne18_a14; exact Nat.ne_of_lt (Nat.lt_of_lt_of_le FS18.exa.lt q)
  have sf22 : Safe Z EL T17.vm T21.heap a14 := (Safe.keep Kq21 (sfS sf19 (sfS sd18 sf0)) RR18.1 sf19)
  obtain ⟨a23, T23, h23, k23, b23, kb23, X23, e23, E23, hS23, hj23, hZ23, hown23, A23, C23, F23, V23, l123, l223, RC23, lt23, ns23, st23⟩ := ldcCH X21 hx hZ17 hown17 (hw _ w_143) (strW hw) (rfl : T21.heap = T21.heap) hS17 hk21 hEL (by decide) RR21.1 (vs := [(.int (32 : Int32)), (.int (111 : Int32)), (.int (110 : Int32)), (.int (108 : Int32)), (.int (121 : Int32)), (.int (46 : Int32))]) (z := (6 : Int32)) (by decide +kernel) (by decide) (by decide) (g := (mkF m 25 #[vr a, .unset] [(.ref a14), (.ref a13), (.int (405 : Int32)), (.ref a11), (.ref a11)])) rfl (hb hby d11_25) (n := 24) (by decide) (by decide) (by decide) (by decide)
  refine Fin.go st23 ?_
  have O23 := O21.ext E23
  have K23 := K21.ext E23
  have RR23 := RR21.trans RC23
  have sf23_a11 := (CHr.safe RC23 A21_a11.lt (Safe.keep Kq21 (sfS sf19 (sfS sd18 sf0)) RR18.1 sf18_a11))
  have A23_a13 := ((((((A13.ext E14).keep Kq15).ext E17).keep Kq18).keep Kq21).ext E23)
  show Fin _ _ _ _ _ _ _ _ T23 (mkF m 27 #[vr a, .unset] [(.ref a23), (.ref a14), (.ref a13), (.int (405 : Int32)), (.ref a11), (.ref a11)])
  obtain ⟨v24, T24, L24, X24, q24, st24⟩ := callVt X23 hx hZ23 (y := (⟨"java/lang/StringBuilder", "append", "(Ljava/lang/String;)Ljava/lang/StringBuilder;"⟩ : MethodName)) hown23 (hw _ w_73) (hw _ w_74) (hw _ w_76) (hw _ w_75) (hw _ w_56) (hw _ w_77) (by decide) (W := 4) (rmSA l Z a0 hw n0 h23 O23 a14 d21 a23 b23 kd21 kb23 (tPre ++ ys) tPost 0 34 34 (Or.inl ⟨(by rw [List.length_append]; show 18 + ys.length + 6 ≤ 34; omega), rfl⟩) (by decide) (Or.inr latPost) (chG (chA chPre hcL)) (chG chPost) (FS21.ext E23) A23 C23 F23 (bxLit V23 rfl (by decide) rfl (by decide)) n14 nd21 (Ne.symm ne21_a14) (Ne.symm (ns23 _ (CHr.safe RC23 FS21.exa.lt sf22)).1) (Ne.symm (ns23 _ (CHr.safe RC23 FS21.exa.lt sf22)).2) (Ne.symm (ns23 _ (CHr.safe RC23 FS21.alt sd21)).2) cs S_cs hcs S_as S_hb S_lb fm hfm S_fm) e23 (FS21.ext E23).exa (by decide) (by decide) (by decide) (by decide) (g := (mkF m 27 #[vr a, .unset] [(.ref a23), (.ref a14), (.ref a13), (.int (405 : Int32)), (.ref a11), (.ref a11)])) rfl (by rw [hml]; rfl) (argsL := [(.ref a23)]) (rest := [(.ref a13), (.int (405 : Int32)), (.ref a11), (.ref a11)]) (lenOf pd_oLjava_lang_String_cLjava_lang_StringBuilder_ rfl) rfl (wk rfl rfl) (hb hby d11_27)
  obtain ⟨rfl, Nq24, Kq24, d24, kd24, hd24, FS24⟩ := q24
  have N24 := Fr.app N21 Nq24
  have O24 := O23.keep Kq24 (allS n14 (allS nd21 all0))
  have K24 := K23.trans Kq24 (allS (Or.inr z14) (allS (Or.inr hz21) all0))
  have RR24 := RR23.trans (CHr.keep Kq24 (sfS (CHr.safe RC23 FS21.exa.lt sf22) (sfS (CHr.safe RC23 FS21.alt sd21) sf0)) RR23.1)
  have hk24 := Nat.le_trans hj23 Kq24.1
  refine Fin.go st24 ?_
  have Z24_a := ((Z21_a.ext E23).keep Kq24 (allS (Nat.le_trans ((FA.ext E11).ext E13).le (Nat.le_of_eq g14.symm)) (allS ge21_a all0)))
  have F24_a11_cause := ((F21_a11_cause.ext E23).keep Kq24 (ninS (Nat.ne_of_lt (Nat.lt_of_lt_of_eq (A11.ext E13).lt g14.symm)) (ninS ne21_a11 nin0)))
  have F24_a11_stackTrace := ((F21_a11_stackTrace.ext E23).keep Kq24 (ninS (Nat.ne_of_lt (Nat.lt_of_lt_of_eq (A11.ext E13).lt g14.symm)) (ninS ne21_a11 nin0)))
  have F24_a11_suppressedExceptions := ((F21_a11_suppressedExceptions.ext E23).keep Kq24 (ninS (Nat.ne_of_lt (Nat.lt_of_lt_of_eq (A11.ext E13).lt g14.symm)) (ninS ne21_a11 nin0)))
  have F24_a11_detailMessage := ((F21_a11_detailMessage.ext E23).keep Kq24 (ninS (Nat.ne_of_lt (Nat.lt_of_lt_of_eq (A11.ext E13).lt g14.symm)) (ninS ne21_a11 nin0)))
  have F24_a11__status := ((F21_a11__status.ext E23).keep Kq24 (ninS (Nat.ne_of_lt (Nat.lt_of_lt_of_eq (A11.ext E13).lt g14.symm)) (ninS ne21_a11 nin0)))
  have F24_a11__code := ((F21_a11__code.ext E23).keep Kq24 (ninS (Nat.ne_of_lt (Nat.lt_of_lt_of_eq (A11.ext E13).lt g14.symm)) (ninS ne21_a11 nin0)))
  have F24_a11__allowed := ((F21_a11__allowed.ext E23).keep Kq24 (ninS (Nat.ne_of_lt (Nat.lt_of_lt_of_eq (A11.ext E13).lt g14.symm)) (ninS ne21_a11 nin0)))
  have sf24_a11 := (Safe.keep Kq24 (sfS (CHr.safe RC23 FS21.exa.lt sf22) (sfS (CHr.safe RC23 FS21.alt sd21) sf0)) RR23.1 sf23_a11)
  have F24_a13_coder := ((F21_a13_coder.ext E23).keep Kq24 (ninS (Nat.ne_of_lt (Nat.lt_of_lt_of_eq A13.lt g14.symm)) (ninS ne21_a13 nin0)))
  have F24_a13_value := ((F21_a13_value.ext E23).keep Kq24 (ninS (Nat.ne_of_lt (Nat.lt_of_lt_of_eq A13.lt g14.symm)) (ninS ne21_a13 nin0)))
  have V24_b13 := ((V21_b13.ext E23).keep Kq24 (ninS (Nat.ne_of_lt (Nat.lt_of_lt_of_eq V13.lt g14.symm)) (ninS ne21_b13 nin0)))
  have sf24_a14 := (Safe.keep Kq24 (sfS (CHr.safe RC23 FS21.exa.lt sf22) (sfS (CHr.safe RC23 FS21.alt sd21) sf0)) RR23.1 (CHr.safe RC23 FS21.exa.lt sf22))
  have sf24_d21 := (Safe.keep Kq24 (sfS (CHr.safe RC23 FS21.exa.lt sf22) (sfS (CHr.safe RC23 FS21.alt sd21) sf0)) RR23.1 (CHr.safe RC23 FS21.alt sd21))
  show Fin _ _ _ _ _ _ _ _ T24 (mkF m 30 #[vr a, .unset] [(.ref a14), (.ref a13), (.int (405 : Int32)), (.ref a11), (.ref a11)])
  have sd24 : Safe Z EL T23.vm T24.heap d24 := by rcases hd24 with rfl | q; exact Safe.keep Kq24 (sfS (CHr.safe RC23 FS21.exa.lt sf22) (sfS (CHr.safe RC23 FS21.alt sd21) sf0)) RR23.1 (CHr.safe RC23 FS21.alt sd21); exact Safe.keep Kq24 (sfS (CHr.safe RC23 FS21.exa.lt sf22) (sfS (CHr.safe RC23 FS21.alt sd21) sf0)) RR23.1 (Safe.new q)
  have nd24 : n0 ≤ d24 := by rcases hd24 with rfl | q; exact nd21; exact Nat.le_trans (by have := O23.1; have := O23.2.1; omega) q
  have hz24 : h0.size ≤ d24 := by rcases hd24 with rfl | q; exact hz21; exact Nat.le_trans K23.1 q
  have ge24_a : B ≤ d24 := by rcases hd24 with rfl | q; exact ge21_a; exact Nat.le_trans (Z21_a.ext E23).le q
  have ne24_a11 : a11 ≠ d24 := by rcases hd24 with rfl | q; exact ne21_a11; exact Nat.ne_of_lt (Nat.lt_of_lt_of_le (A21_a11.ext E23).lt q)
  have ne24_a13 : a13 ≠ d24 := by rcases hd24 with rfl | q; exact ne21_a13; exact Nat.ne_of_lt (Nat.lt_of_lt_of_le A23_a13.lt q)
  have ne24_b13 : b13 ≠ d24 := by rcases hd24 with rfl | q; exact ne21_b13; exact Nat.ne_of_lt (Nat.lt_of_lt_of_le (V21_b13.ext E23).lt q)
  have ne24_a14 : a14 ≠ d24 := by rcases hd24 with rfl | q; exact ne21_a14; exact Nat.ne_of_lt (Nat.lt_of_lt_of_le (FS21.exa.ext E23).lt q)
  have sf25 : Safe Z EL T23.vm T24.heap a14 := sf24_a14
  obtain ⟨v26, T26, L26, X26, q26, st26⟩ := callVt X24 hx hZ23 (y := (⟨"java/lang/StringBuilder", "toString", "()Ljava/lang/String;"⟩ : MethodName)) hown23 (hw _ w_144) (hw _ w_145) (hw _ w_147) (hw _ w_146) (hw _ w_56) (hw _ w_148) (by decide) (W := 4) (rmTS l Z a0 hw n0 T24.heap O24 a14 d24 kd24 ((tPre ++ ys) ++ tPost) 34 (by rw [List.length_append, List.length_append]; show 18 + ys.length + 6 < 34; omega) (by decide) FS24 cs S_cs hcs) (rfl : T24.heap = T24.heap) FS24.exa (by decide) (by decide) (by decide) (by decide) (g := (mkF m 30 #[vr a, .unset] [(.ref a14), (.ref a13), (.int (405 : Int32)), (.ref a11), (.ref a11)])) rfl (by rw [hml]; rfl) (argsL := []) (rest := [(.ref a13), (.int (405 : Int32)), (.ref a11), (.ref a11)]) (lenOf pd_ocLjava_lang_String_ rfl) rfl (wk rfl rfl) (hb hby d11_30)
  obtain ⟨g26, co26, d26, kd26, rfl, Nq26, Kq26, zg26, zd26, A26, C26, F26, V26⟩ := q26
  have N26 := Fr.app N24 Nq26
  have O26 := O24.keep Kq26 all0
  have K26 := K24.trans Kq26 all0
  have RR26 := RR24.trans (CHr.keep Kq26 sf0 RR24.1)
  have hk26 := Nat.le_trans hk24 Kq26.1
  refine Fin.go st26 ?_
  show Fin _ _ _ _ _ _ _ _ T26 (mkF m 33 #[vr a, .unset] [(.ref g26), (.ref a13), (.int (405 : Int32)), (.ref a11), (.ref a11)])
  have nzg26 : n0 ≤ g26 := Nat.le_trans (by have := O24.1; have := O24.2.1; omega) zg26
  have hzg26 : h0.size ≤ g26 := Nat.le_trans K24.1 zg26
  have nzd26 : n0 ≤ d26 := Nat.le_trans (by have := O24.1; have := O24.2.1; omega) zd26
  have hzd26 : h0.size ≤ d26 := Nat.le_trans K24.1 zd26
  obtain ⟨v27, T27, L27, X27, q27, st27⟩ := callCt X26 hx hZ23 (y := (⟨"com/example/spool/spool/http/HttpError", "<init>", "(ILjava/lang/String;Ljava/lang/String;)V"⟩ : MethodName)) rfl hown23 (hw _ w_183) (hw _ w_184) (hw _ w_47) (hw _ w_185) (by decide) (W := 1) (rmHE l Z a0 hw n0 T26.heap O26 a11 g26 a13 (((A21_a11.ext E23).keep Kq24).keep Kq26) (F24_a11__status.keep Kq26 nin0) (F24_a11__code.keep Kq26 nin0) (F24_a11__allowed.keep Kq26 nin0) (F24_a11_detailMessage.keep Kq26 nin0) (F24_a11_cause.keep Kq26 nin0) (F24_a11_stackTrace.keep Kq26 nin0) (F24_a11_suppressedExceptions.keep Kq26 nin0) n11 us hus S_us ss hss S_ss) (rfl : T26.heap = T26.heap) (by decide) (by decide) (by decide) (by decide) (g := (mkF m 33 #[vr a, .unset] [(.ref g26), (.ref a13), (.int (405 : Int32)), (.ref a11), (.ref a11)])) rfl (by rw [hml]; rfl) (a := a11) (argsL := [(.int (405 : Int32)), (.ref a13), (.ref g26)]) (rest := [(.ref a11)]) (lenOf pd_oILjava_lang_String_Ljava_lang_String_cV rfl) rfl (wk rfl rfl) (hb hby d11_33)
  obtain ⟨rfl, Nq27, Kq27, U27, U027, U127, U227, U327⟩ := q27
  have N27 := Fr.app N26 Nq27
  have O27 := O26.keep Kq27 (allS n11 all0)
  have K27 := K26.trans Kq27 (allS (Or.inr z11) all0)
  have RR27 := RR26.trans (CHr.keep Kq27 (sfS (Safe.keep Kq26 sf0 RR24.1 sf24_a11) sf0) RR26.1)
  have hk27 := Nat.le_trans hk26 Kq27.1
  refine Fin.go st27 ?_
  have Z27_a := ((Z24_a.keep Kq26 all0).keep Kq27 (allS (Nat.le_trans FA.le (Nat.le_of_eq g11.symm)) all0))
  have sf27_a11 := (Safe.keep Kq27 (sfS (Safe.keep Kq26 sf0 RR24.1 sf24_a11) sf0) RR26.1 (Safe.keep Kq26 sf0 RR24.1 sf24_a11))
  have F27_a13_coder := ((F24_a13_coder.keep Kq26 nin0).keep Kq27 (ninS (Ne.symm (ns13 _ (CHr.safe RC13 A11.lt sf12)).1) nin0))
  have F27_a13_value := ((F24_a13_value.keep Kq26 nin0).keep Kq27 (ninS (Ne.symm (ns13 _ (CHr.safe RC13 A11.lt sf12)).1) nin0))
  have V27_b13 := ((V24_b13.keep Kq26 nin0).keep Kq27 (ninS (Ne.symm (ns13 _ (CHr.safe RC13 A11.lt sf12)).2) nin0))
  have F27_g26_coder := (C26.keep Kq27 (ninS (Ne.symm (Nat.ne_of_lt (Nat.lt_of_lt_of_le F24_a11__allowed.lt zg26))) nin0))
  have F27_g26_value := (F26.keep Kq27 (ninS (Ne.symm (Nat.ne_of_lt (Nat.lt_of_lt_of_le F24_a11__allowed.lt zg26))) nin0))
  have V27_d26 := (V26.keep Kq27 (ninS (Ne.symm (Nat.ne_of_lt (Nat.lt_of_lt_of_le F24_a11__allowed.lt zd26))) nin0))
  show Fin _ _ _ _ _ _ _ _ T27 (mkF m 36 #[vr a, .unset] [(.ref a11)])
  refine .go (fun _ k => XS.astoreN X27.here hx rfl (hb hby d11_36) rfl rfl (l' := #[vr a, vr a11]) rfl k) ?_
  refine .go (fun _ k => XS.aloadN X27.here hx rfl (hb hby d11_37) rfl rfl k) ?_
  refine .go (fun _ k => XS.aloadN X27.here hx rfl (hb hby d11_38) rfl rfl k) ?_
  obtain ⟨T28, h28, X28, e28, W28, st28⟩ := putF X27 hx hZ23 hown23 (host := "") (Or.inl (hw _ w_212)) Via.refl (rfl : T27.heap = T27.heap) U227 U27 (Or.inl (hw _ w_213)) (hw _ w_50) (ty := (.object "java/lang/String")) (by decide) rfl rfl (g := (mkF m 39 #[vr a, vr a11] [(.ref a), (.ref a11)])) rfl rfl (hb hby d11_39)
  refine Fin.go st28 ?_
  have N28 := Fr.snoc X28 N27 n11
  have O28 := O27.wr W28 n11
  have K28 := K27.wr W28 (Or.inr z11)
  have hk28 := Nat.le_trans hk27 (Keep.of_wr W28).1
  have RR28 := RR27.trans (CHr.wr W28 sf27_a11 RR27.1)
  have Z28_a := (Z27_a.other W28 (Nat.le_trans FA.le (Nat.le_of_eq g11.symm)))
  have F28_a13_coder := (F27_a13_coder.other W28 (Or.inl (Ne.symm (ns13 _ (CHr.safe RC13 A11.lt sf12)).1)))
  have F28_a13_value := (F27_a13_value.other W28 (Or.inl (Ne.symm (ns13 _ (CHr.safe RC13 A11.lt sf12)).1)))
  have V28_b13 := (V27_b13.other W28 (Ne.symm (ns13 _ (CHr.safe RC13 A11.lt sf12)).2))
  have F28_g26_coder := (F27_g26_coder.other W28 (Or.inl (Ne.symm (Nat.ne_of_lt (Nat.lt_of_lt_of_le F24_a11__allowed.lt zg26)))))
  have F28_g26_value := (F27_g26_value.other W28 (Or.inl (Ne.symm (Nat.ne_of_lt (Nat.lt_of_lt_of_le F24_a11__allowed.lt zg26)))))
  have V28_d26 := (V27_d26.other W28 (Ne.symm (Nat.ne_of_lt (Nat.lt_of_lt_of_le F24_a11__allowed.lt zd26))))
  have F28_a11__status := (U027.other W28 (Or.inr (slot_ne (Or.inr (hw _ w_209)) (Or.inl (hw _ w_213)) (by decide) (t := .int) (t' := (.object "java/lang/String")) (by decide) (by decide))))
  have F28_a11__code := (U127.other W28 (Or.inr (slot_ne (Or.inr (hw _ w_211)) (Or.inl (hw _ w_213)) (by decide) (t := (.object "java/lang/String")) (t' := (.object "java/lang/String")) (by decide) (by decide))))
  have F28_a11_detailMessage := (U327.other W28 (Or.inr (slot_ne (Or.inl (hw _ w_207)) (Or.inl (hw _ w_213)) (by decide) (t := (.object "java/lang/String")) (t' := (.object "java/lang/String")) (by decide) (by decide))))
  show Fin _ _ _ _ _ _ _ _ T28 (mkF m 42 #[vr a, vr a11] [])
  refine .go (fun _ k => XS.aloadN X28.here hx rfl (hb hby d11_42) rfl rfl k) ?_
  exact Fin.leaveH X28 hS23 hk28 hZ23 hEL e28 RR28 hlk (v := some (.ref a11)) (nvS hret) (by decide) (by decide) ⟨a11, a13, g26, co26, rfl, N28, K28, (U27.wr W28), F28_a11__status, F28_a11__code, (U227.same W28), F28_a11_detailMessage, sxRaw ((((A23_a13.keep Kq24).keep Kq26).keep Kq27).wr W28) F28_a13_coder F28_a13_value (bxLit V28_b13 rfl (by decide) rfl (by decide)), sxRaw ((A26.keep Kq27).wr W28) F28_g26_coder F28_g26_value V28_d26⟩ (fun fs hr => retOut X28 hx hret rfl (Or.inr (Or.inr (Or.inr (Or.inr ⟨rfl, rfl, rfl⟩)))) (hb hby d11_43) hr)
theorem law (l : Launch) (Z : State) (a0 : Array Value) (hw : HW a0 Z) (n0 : Nat) (h0 : Heap) (O : Old Z n0 h0) (p0 p1 p2 p3 : Int32) (cs : Int32) (S_cs : Sta Z Z.heap "java/lang/String" "COMPACT_STRINGS" "Z" (.int cs)) (hcs : ¬ cs = 0) (S_as : SAs Z) (S_hb : SHb Z) (S_lb : SLb Z) (fm : Value) (hfm : fm.isRef = true) (S_fm : SFm Z fm) (us : Value) (hus : us.isRef = true) (S_us : Sta Z Z.heap "java/lang/Throwable" "UNASSIGNED_STACK" "[Ljava/lang/StackTraceElement;" us) (ss : Value) (hss : ss.isRef = true) (S_ss : Sta Z Z.heap "java/lang/Throwable" "SUPPRESSED_SENTINEL" "Ljava/util/List;" ss) :
    ConHW l Z EL tables_1 x code maxLocals ret room_1 #[(.int p0), (.int p1), (.int p2), (.int p3)] h0 (fun v h L => v = some (.int 1) ∧ Fr n0 L) := by
  refine conOfH (plainFor_of_name pn_com_example_spool_spool_http_HttpErrorMethodNotAllowedPinLaw) ?_
  intro p e s m below mth cc s₁ X0 hx hby hml hown hnm hret hlk hZ e0 hS RR0
  have N0 := Fr.nil n0
  have hEL := elW hw
  refine Fin.came (castTop (t := _) (by first | (simp [entryFrame, mkF, argsToLocals, Value.category, maxLocals]; done) | rfl) (Steps.refl _) : Steps p.tables e below (s₁.setTop (entryFrame m #[(.int p0), (.int p1), (.int p2), (.int p3)] maxLocals)) (s₁.setTop (mkF m 0 #[vi p0, vi p1, vi p2, vi p3, .unset, .unset, .unset, .unset, .unset, .unset, .unset, .unset, .unset] []))) ?_
  refine .go (fun _ k => XS.iloadN X0.here hx rfl (hb hby at_0) rfl k) ?_
  refine .go (fun _ k => X0.ldcI hx hown (mvT hZ (hw _ w_0)) rfl (hb hby at_1) k) ?_
  refine .go (fun _ k => XS.iand X0.here hx rfl (hb hby at_3) rfl k) ?_
  refine .go (fun _ k => XT.i2c X0.here hx rfl (hb hby at_4) rfl k) ?_
  show Fin _ _ _ _ _ _ _ _ s₁ (mkF m 5 #[vi p0, vi p1, vi p2, vi p3, .unset, .unset, .unset, .unset, .unset, .unset, .unset, .unset, .unset] [(.int ((Int32.toUInt32 (p0 &&& (65535 : Int32))).toUInt16.toUInt32.toInt32))])
  show Fin _ _ _ _ _ _ _ _ s₁ (mkF m 5 #[vi p0, vi p1, vi p2, vi p3, .unset, .unset, .unset, .unset, .unset, .unset, .unset, .unset, .unset] [(.int ((Int32.toUInt32 (p0 &&& (65535 : Int32))).toUInt16.toUInt32.toInt32))])
  have hx1 := chC16 (p0 &&& (65535 : Int32))
  generalize ((Int32.toUInt32 (p0 &&& (65535 : Int32))).toUInt16.toUInt32.toInt32) = x1 at hx1 ⊢
  show Fin _ _ _ _ _ _ _ _ s₁ (mkF m 5 #[vi p0, vi p1, vi p2, vi p3, .unset, .unset, .unset, .unset, .unset, .unset, .unset, .unset, .unset] [(.int x1)])
  refine .go (fun _ k => XS.istore X0.here hx rfl (hb hby at_5) rfl (l' := #[vi p0, vi p1, vi p2, vi p3, vi x1, .unset, .unset, .unset, .unset, .unset, .unset, .unset, .unset]) rfl k) ?_
  refine .go (fun _ k => XS.iloadN X0.here hx rfl (hb hby at_7) rfl k) ?_
  refine .go (fun _ k => X0.ldcI hx hown (mvT hZ (hw _ w_0)) rfl (hb hby at_8) k) ?_
  refine .go (fun _ k => XS.iand X0.here hx rfl (hb hby at_10) rfl k) ?_
  show Fin _ _ _ _ _ _ _ _ s₁ (mkF m 11 #[vi p0, vi p1, vi p2, vi p3, vi x1, .unset, .unset, .unset, .unset, .unset, .unset, .unset, .unset] [(.int (p1 &&& (65535 : Int32)))])
  refine .go (fun _ k => XT.i2c X0.here hx rfl (hb hby at_11) rfl k) ?_
  show Fin _ _ _ _ _ _ _ _ s₁ (mkF m 12 #[vi p0, vi p1, vi p2, vi p3, vi x1, .unset, .unset, .unset, .unset, .unset, .unset, .unset, .unset] [(.int ((Int32.toUInt32 (p1 &&& (65535 : Int32))).toUInt16.toUInt32.toInt32))])
  show Fin _ _ _ _ _ _ _ _ s₁ (mkF m 12 #[vi p0, vi p1, vi p2, vi p3, vi x1, .unset, .unset, .unset, .unset, .unset, .unset, .unset, .unset] [(.int ((Int32.toUInt32 (p1 &&& (65535 : Int32))).toUInt16.toUInt32.toInt32))])
  have hx2 := chC16 (p1 &&& (65535 : Int32))
  generalize ((Int32.toUInt32 (p1 &&& (65535 : Int32))).toUInt16.toUInt32.toInt32) = x2 at hx2 ⊢
  show Fin _ _ _ _ _ _ _ _ s₁ (mkF m 12 #[vi p0, vi p1, vi p2, vi p3, vi x1, .unset, .unset, .unset, .unset, .unset, .unset, .unset, .unset] [(.int x2)])
  refine .go (fun _ k => XS.istore X0.here hx rfl (hb hby at_12) rfl (l' := #[vi p0, vi p1, vi p2, vi p3, vi x1, vi x2, .unset, .unset, .unset, .unset, .unset, .unset, .unset]) rfl k) ?_
  refine .go (fun _ k => XS.iloadN X0.here hx rfl (hb hby at_14) rfl k) ?_
  refine .go (fun _ k => X0.ldcI hx hown (mvT hZ (hw _ w_0)) rfl (hb hby at_15) k) ?_
  refine .go (fun _ k => XS.iand X0.here hx rfl (hb hby at_17) rfl k) ?_
  show Fin _ _ _ _ _ _ _ _ s₁ (mkF m 18 #[vi p0, vi p1, vi p2, vi p3, vi x1, vi x2, .unset, .unset, .unset, .unset, .unset, .unset, .unset] [(.int (p2 &&& (65535 : Int32)))])
  refine .go (fun _ k => XT.i2c X0.here hx rfl (hb hby at_18) rfl k) ?_
  show Fin _ _ _ _ _ _ _ _ s₁ (mkF m 19 #[vi p0, vi p1, vi p2, vi p3, vi x1, vi x2, .unset, .unset, .unset, .unset, .unset, .unset, .unset] [(.int ((Int32.toUInt32 (p2 &&& (65535 : Int32))).toUInt16.toUInt32.toInt32))])
  show Fin _ _ _ _ _ _ _ _ s₁ (mkF m 19 #[vi p0, vi p1, vi p2, vi p3, vi x1, vi x2, .unset, .unset, .unset, .unset, .unset, .unset, .unset] [(.int ((Int32.toUInt32 (p2 &&& (65535 : Int32))).toUInt16.toUInt32.toInt32))])
  have hx3 := chC16 (p2 &&& (65535 : Int32))
  generalize ((Int32.toUInt32 (p2 &&& (65535 : Int32))).toUInt16.toUInt32.toInt32) = x3 at hx3 ⊢
  show Fin _ _ _ _ _ _ _ _ s₁ (mkF m 19 #[vi p0, vi p1, vi p2, vi p3, vi x1, vi x2, .unset, .unset, .unset, .unset, .unset, .unset, .unset] [(.int x3)])
  refine .go (fun _ k => XS.istore X0.here hx rfl (hb hby at_19) rfl (l' := #[vi p0, vi p1, vi p2, vi p3, vi x1, vi x2, vi x3, .unset, .unset, .unset, .unset, .unset, .unset]) rfl k) ?_
  refine .go (fun _ k => XS.iloadN X0.here hx rfl (hb hby at_21) rfl k) ?_
  refine .go (fun _ k => XS.iconst X0.here hx rfl (hb hby at_22) k) ?_
  refine .go (fun _ k => XS.iand X0.here hx rfl (hb hby at_23) rfl k) ?_
  show Fin _ _ _ _ _ _ _ _ s₁ (mkF m 24 #[vi p0, vi p1, vi p2, vi p3, vi x1, vi x2, vi x3, .unset, .unset, .unset, .unset, .unset, .unset] [(.int (p3 &&& (3 : Int32)))])
  refine .go (fun _ k => XS.istore X0.here hx rfl (hb hby at_24) rfl (l' := #[vi p0, vi p1, vi p2, vi p3, vi x1, vi x2, vi x3, vi (p3 &&& (3 : Int32)), .unset, .unset, .unset, .unset, .unset]) rfl k) ?_
  refine .go (fun _ k => XS.iload X0.here hx rfl (hb hby at_26) rfl k) ?_
  by_cases c28 : (p3 &&& (3 : Int32)) = 0
  · refine .go (fun _ k => XS.ifNo X0.here hx rfl (hb hby at_28) rfl (XT.i0_ne_f c28) k) ?_
    show Fin _ _ _ _ _ _ _ _ s₁ (mkF m 31 #[vi p0, vi p1, vi p2, vi p3, vi x1, vi x2, vi x3, vi (p3 &&& (3 : Int32)), .unset, .unset, .unset, .unset, .unset] [])
    obtain ⟨a11, T11, h11, k11, b11, kb11, X11, e11, E11, hS11, hj11, hZ11, hown11, A11, C11, F11, V11, l111, l211, RC11, lt11, ns11, st11⟩ := ldcCH X0 hx hZ hown (hw _ w_244) (strW hw) e0 hS (Nat.zero_le _) hEL (by decide) RR0.1 (vs := []) (z := (0 : Int32)) (by decide +kernel) (by decide) (by decide) (g := (mkF m 31 #[vi p0, vi p1, vi p2, vi p3, vi x1, vi x2, vi x3, vi (p3 &&& (3 : Int32)), .unset, .unset, .unset, .unset, .unset] [])) rfl (hb hby at_31) (n := 0) (by decide) (by decide) (by decide) (by decide)
    refine Fin.go st11 ?_
    have O11 := O.ext E11
    have RR11 := RR0.trans RC11
    show Fin _ _ _ _ _ _ _ _ T11 (mkF m 33 #[vi p0, vi p1, vi p2, vi p3, vi x1, vi x2, vi x3, vi (p3 &&& (3 : Int32)), .unset, .unset, .unset, .unset, .unset] [(.ref a11)])
    have Z11 : SX Z h11 a11 0 [] h11.size := sxRaw A11 C11 F11 (bxLit V11 rfl (by decide) rfl (by decide))
    refine .go (fun _ k => XS.astore X11.here hx rfl (hb hby at_33) rfl rfl (l' := #[vi p0, vi p1, vi p2, vi p3, vi x1, vi x2, vi x3, vi (p3 &&& (3 : Int32)), vr a11, .unset, .unset, .unset, .unset]) rfl k) ?_
    show Fin _ _ _ _ _ _ _ _ T11 (mkF m 35 #[vi p0, vi p1, vi p2, vi p3, vi x1, vi x2, vi x3, vi (p3 &&& (3 : Int32)), vr a11, .unset, .unset, .unset, .unset] [])
    obtain ⟨a12, T12, h12, k12, b12, kb12, X12, e12, E12, hS12, hj12, hZ12, hown12, A12, C12, F12, V12, l112, l212, RC12, lt12, ns12, st12⟩ := ldcCH X11 hx hZ11 hown11 (hw _ w_245) (strW hw) e11 hS11 hj11 hEL (by decide) RR11.1 (vs := [(.int (84 : Int32)), (.int (104 : Int32)), (.int (105 : Int32)), (.int (115 : Int32)), (.int (32 : Int32)), (.int (112 : Int32)), (.int (97 : Int32)), (.int (116 : Int32)), (.int (104 : Int32)), (.int (32 : Int32)), (.int (97 : Int32)), (.int (110 : Int32)), (.int (115 : Int32)), (.int (119 : Int32)), (.int (101 : Int32)), (.int (114 : Int32)), (.int (115 : Int32)), (.int (32 : Int32)), (.int (32 : Int32)), (.int (111 : Int32)), (.int (110 : Int32)), (.int (108 : Int32)), (.int (121 : Int32)), (.int (46 : Int32))]) (z := (24 : Int32)) (by decide +kernel) (by decide) (by decide) (g := (mkF m 35 #[vi p0, vi p1, vi p2, vi p3, vi x1, vi x2, vi x3, vi (p3 &&& (3 : Int32)), vr a11, .unset, .unset, .unset, .unset] [])) rfl (hb hby at_35) (n := 96) (by decide) (by decide) (by decide) (by decide)
    refine Fin.go st12 ?_
    have O12 := O11.ext E12
    have RR12 := RR11.trans RC12
    show Fin _ _ _ _ _ _ _ _ T12 (mkF m 37 #[vi p0, vi p1, vi p2, vi p3, vi x1, vi x2, vi x3, vi (p3 &&& (3 : Int32)), vr a11, .unset, .unset, .unset, .unset] [(.ref a12)])
    have Z12 : SX Z h12 a12 0 ((tPre ++ []) ++ tPost) h12.size := sxRaw A12 C12 F12 (bxLit V12 rfl (by decide) rfl (by decide))
    refine .go (fun _ k => XS.astore X12.here hx rfl (hb hby at_37) rfl rfl (l' := #[vi p0, vi p1, vi p2, vi p3, vi x1, vi x2, vi x3, vi (p3 &&& (3 : Int32)), vr a11, vr a12, .unset, .unset, .unset]) rfl k) ?_
    refine .go (fun _ k => XS.goto X12.here hx rfl (pc0 := 39) (pc' := 605) rfl (hb hby at_39) (by decide) (by decide) k) ?_
    refine .go (fun _ k => XS.aload X12.here hx rfl (hb hby at_605) rfl rfl k) ?_
    obtain ⟨v13, T13, L13, X13, hS13, hZ13, hown13, RC13, q13, st13⟩ := callStH X12 hx hZ12 (y := (⟨"com/example/spool/spool/http/HttpError", "methodNotAllowed", "(Ljava/lang/String;)Lcom/example/spool/spool/http/HttpError;"⟩ : MethodName)) hown12 (hw _ w_45) (hw _ w_46) (hw _ w_47) (hw _ w_48) (by decide) (W := 0) (rmMNA l Z a0 hw n0 h12 O12 a11 0 [] h11.size (show 0 ≤ 3 from by decide) ch0 (Z11.ext E12) cs S_cs hcs S_as S_hb S_lb fm hfm S_fm us hus S_us ss hss S_ss) e12 hS12 hj12 hEL RR12.1 (by decide) (by decide) (by decide) (by decide) (g := (mkF m 607 #[vi p0, vi p1, vi p2, vi p3, vi x1, vi x2, vi x3, vi (p3 &&& (3 : Int32)), vr a11, vr a12, .unset, .unset, .unset] [(.ref a11)])) rfl (by rw [hml]; rfl) (argsL := [(.ref a11)]) (rest := []) (lenOf pd_oLjava_lang_String_cLcom_example_spool_spool_http_HttpError_ rfl) rfl (wk rfl rfl) (hb hby at_607)
    obtain ⟨u13, ck13, g13, cg13, rfl, Nq13, Kq13, U13, U013, U113, U213, U313, Zc13, Zg13⟩ := q13
    have N13 := Fr.app N0 Nq13
    have O13 := O12.keep Kq13 all0
    have RR13 := RR12.trans RC13
    refine Fin.go st13 ?_
    show Fin _ _ _ _ _ _ _ _ T13 (mkF m 610 #[vi p0, vi p1, vi p2, vi p3, vi x1, vi x2, vi x3, vi (p3 &&& (3 : Int32)), vr a11, vr a12, .unset, .unset, .unset] [(.ref u13)])
    refine .go (fun _ k => XS.astore X13.here hx rfl (hb hby at_610) rfl rfl (l' := #[vi p0, vi p1, vi p2, vi p3, vi x1, vi x2, vi x3, vi (p3 &&& (3 : Int32)), vr a11, vr a12, vr u13, .unset, .unset]) rfl k) ?_
    refine .go (fun _ k => XS.aload X13.here hx rfl (hb hby at_612) rfl rfl k) ?_
    obtain ⟨v14, T14, L14, X14, q14, st14⟩ := callVt X13 hx hZ13 (y := (⟨"com/example/spool/spool/http/HttpError", "allowed", "()Ljava/lang/String;"⟩ : MethodName)) hown13 (hw _ w_214) (hw _ w_215) (hw _ w_217) (hw _ w_216) (hw _ w_47) (hw _ w_218) (by decide) (W := 0) (rmGa l Z a0 hw n0 T13.heap O13 u13 a11 U213) (rfl : T13.heap = T13.heap) U13 (by decide) (by decide) (by decide) (by decide) (g := (mkF m 614 #[vi p0, vi p1, vi p2, vi p3, vi x1, vi x2, vi x3, vi (p3 &&& (3 : Int32)), vr a11, vr a12, vr u13, .unset, .unset] [(.ref u13)])) rfl (by rw [hml]; rfl) (argsL := []) (rest := []) (lenOf pd_ocLjava_lang_String_ rfl) rfl (wk rfl rfl) (hb hby at_614)
    obtain ⟨rfl, e14, rfl⟩ := q14
    have N14 := Fr.app N13 (Fr.nil n0)
    refine Fin.go st14 ?_
    show Fin _ _ _ _ _ _ _ _ T14 (mkF m 617 #[vi p0, vi p1, vi p2, vi p3, vi x1, vi x2, vi x3, vi (p3 &&& (3 : Int32)), vr a11, vr a12, vr u13, .unset, .unset] [(.ref a11)])
    refine .go (fun _ k => XS.astore X14.here hx rfl (hb hby at_617) rfl rfl (l' := #[vi p0, vi p1, vi p2, vi p3, vi x1, vi x2, vi x3, vi (p3 &&& (3 : Int32)), vr a11, vr a12, vr u13, vr a11, .unset]) rfl k) ?_
    refine .go (fun _ k => XS.aload X14.here hx rfl (hb hby at_619) rfl rfl k) ?_
    obtain ⟨v15, T15, L15, X15, q15, st15⟩ := callVUt X14 hx hZ13 (y := (⟨"com/example/spool/spool/http/HttpError", "getMessage", "()Ljava/lang/String;"⟩ : MethodName)) (z := (⟨"java/lang/Throwable", "getMessage", "()Ljava/lang/String;"⟩ : MethodName)) (owner := "java/lang/Throwable") hown13 (hw _ w_219) (hw _ w_220) (hw _ w_221) (hw _ w_223) (hw _ w_222) (hw _ w_195) (hw _ w_224) (by decide) (W := 0) (rmGm l Z a0 hw n0 T13.heap O13 u13 g13 U313) e14 U13 (by decide) (by decide) (by decide) (by decide) (g := (mkF m 621 #[vi p0, vi p1, vi p2, vi p3, vi x1, vi x2, vi x3, vi (p3 &&& (3 : Int32)), vr a11, vr a12, vr u13, vr a11, .unset] [(.ref u13)])) rfl (by rw [hml]; rfl) (argsL := []) (rest := []) (lenOf pd_ocLjava_lang_String_ rfl) rfl (wk rfl rfl) (hb hby at_621)
    obtain ⟨rfl, e15, rfl⟩ := q15
    have N15 := Fr.app N14 (Fr.nil n0)
    refine Fin.go st15 ?_
    show Fin _ _ _ _ _ _ _ _ T15 (mkF m 624 #[vi p0, vi p1, vi p2, vi p3, vi x1, vi x2, vi x3, vi (p3 &&& (3 : Int32)), vr a11, vr a12, vr u13, vr a11, .unset] [(.ref g13)])
    refine .go (fun _ k => XS.astore X15.here hx rfl (hb hby at_624) rfl rfl (l' := #[vi p0, vi p1, vi p2, vi p3, vi x1, vi x2, vi x3, vi (p3 &&& (3 : Int32)), vr a11, vr a12, vr u13, vr a11, vr g13]) rfl k) ?_
    refine .go (fun _ k => XS.aload X15.here hx rfl (hb hby at_626) rfl rfl k) ?_
    obtain ⟨v16, T16, L16, X16, q16, st16⟩ := callVt X15 hx hZ13 (y := (⟨"com/example/spool/spool/http/HttpError", "status", "()I"⟩ : MethodName)) hown13 (hw _ w_225) (hw _ w_226) (hw _ w_228) (hw _ w_227) (hw _ w_47) (hw _ w_229) (by decide) (W := 0) (rmGs l Z a0 hw n0 T13.heap O13 u13 u13 U013) e15 U13 (by decide) (by decide) (by decide) (by decide) (g := (mkF m 628 #[vi p0, vi p1, vi p2, vi p3, vi x1, vi x2, vi x3, vi (p3 &&& (3 : Int32)), vr a11, vr a12, vr u13, vr a11, vr g13] [(.ref u13)])) rfl (by rw [hml]; rfl) (argsL := []) (rest := []) (lenOf pd_ocI rfl) rfl (wk rfl rfl) (hb hby at_628)
    obtain ⟨rfl, e16, rfl⟩ := q16
    have N16 := Fr.app N15 (Fr.nil n0)
    refine Fin.go st16 ?_
    show Fin _ _ _ _ _ _ _ _ T16 (mkF m 631 #[vi p0, vi p1, vi p2, vi p3, vi x1, vi x2, vi x3, vi (p3 &&& (3 : Int32)), vr a11, vr a12, vr u13, vr a11, vr g13] [(.int (405 : Int32))])
    refine .go (fun _ k => XS.sipush X16.here hx rfl (hb hby at_631) k) ?_
    refine .go (fun _ k => XS.icmpNo X16.here hx rfl (hb hby at_634) rfl (XT.ii_ne_f (by decide)) k) ?_
    show Fin _ _ _ _ _ _ _ _ T16 (mkF m 637 #[vi p0, vi p1, vi p2, vi p3, vi x1, vi x2, vi x3, vi (p3 &&& (3 : Int32)), vr a11, vr a12, vr u13, vr a11, vr g13] [])
    obtain ⟨a17, T17, h17, k17, b17, kb17, X17, e17, E17, hS17, hj17, hZ17, hown17, A17, C17, F17, V17, l117, l217, RC17, lt17, ns17, st17⟩ := ldcCH X16 hx hZ13 hown13 (hw _ w_230) (strW hw) e16 hS13 (Nat.le_refl T13.heap.size) hEL (by decide) RR13.1 (vs := [(.int (109 : Int32)), (.int (101 : Int32)), (.int (116 : Int32)), (.int (104 : Int32)), (.int (111 : Int32)), (.int (100 : Int32)), (.int (95 : Int32)), (.int (110 : Int32)), (.int (111 : Int32)), (.int (116 : Int32)), (.int (95 : Int32)), (.int (97 : Int32)), (.int (108 : Int32)), (.int (108 : Int32)), (.int (111 : Int32)), (.int (119 : Int32)), (.int (101 : Int32)), (.int (100 : Int32))]) (z := (18 : Int32)) (by decide +kernel) (by decide) (by decide) (g := (mkF m 637 #[vi p0, vi p1, vi p2, vi p3, vi x1, vi x2, vi x3, vi (p3 &&& (3 : Int32)), vr a11, vr a12, vr u13, vr a11, vr g13] [])) rfl (hb hby at_637) (n := 72) (by decide) (by decide) (by decide) (by decide)
    refine Fin.go st17 ?_
    have O17 := O13.ext E17
    have RR17 := RR13.trans RC17
    show Fin _ _ _ _ _ _ _ _ T17 (mkF m 639 #[vi p0, vi p1, vi p2, vi p3, vi x1, vi x2, vi x3, vi (p3 &&& (3 : Int32)), vr a11, vr a12, vr u13, vr a11, vr g13] [(.ref a17)])
    have Z17 : SX Z h17 a17 0 tCode h17.size := sxRaw A17 C17 F17 (bxLit V17 rfl (by decide) rfl (by decide))
    refine .go (fun _ k => XS.aload X17.here hx rfl (hb hby at_639) rfl rfl k) ?_
    obtain ⟨v18, T18, L18, X18, q18, st18⟩ := callVt X17 hx hZ17 (y := (⟨"com/example/spool/spool/http/HttpError", "code", "()Ljava/lang/String;"⟩ : MethodName)) hown17 (hw _ w_231) (hw _ w_232) (hw _ w_234) (hw _ w_233) (hw _ w_47) (hw _ w_235) (by decide) (W := 1) (rmGc l Z a0 hw n0 h17 O17 u13 ck13 (U113.ext E17)) e17 (U13.ext E17) (by decide) (by decide) (by decide) (by decide) (g := (mkF m 641 #[vi p0, vi p1, vi p2, vi p3, vi x1, vi x2, vi x3, vi (p3 &&& (3 : Int32)), vr a11, vr a12, vr u13, vr a11, vr g13] [(.ref u13), (.ref a17)])) rfl (by rw [hml]; rfl) (argsL := []) (rest := [(.ref a17)]) (lenOf pd_ocLjava_lang_String_ rfl) rfl (wk rfl rfl) (hb hby at_641)
    obtain ⟨rfl, e18, rfl⟩ := q18
    have N18 := Fr.app N16 (Fr.nil n0)
    refine Fin.go st18 ?_
    show Fin _ _ _ _ _ _ _ _ T18 (mkF m 644 #[vi p0, vi p1, vi p2, vi p3, vi x1, vi x2, vi x3, vi (p3 &&& (3 : Int32)), vr a11, vr a12, vr u13, vr a11, vr g13] [(.ref ck13), (.ref a17)])
    obtain ⟨v19, T19, L19, X19, q19, st19⟩ := callVt X18 hx hZ17 (y := (⟨"java/lang/String", "equals", "(Ljava/lang/Object;)Z"⟩ : MethodName)) hown17 (hw _ w_236) (hw _ w_237) (hw _ w_239) (hw _ w_238) (hw _ w_3) (hw _ w_240) (by decide) (W := 0) (rmEqX l Z a0 hw n0 h17 O17 a17 ck13 0 0 tCode h17.size T13.heap.size (by decide) Z17 (Zc13.ext E17) cs S_cs hcs) e18 Z17.exa (by decide) (by decide) (by decide) (by decide) (g := (mkF m 644 #[vi p0, vi p1, vi p2, vi p3, vi x1, vi x2, vi x3, vi (p3 &&& (3 : Int32)), vr a11, vr a12, vr u13, vr a11, vr g13] [(.ref ck13), (.ref a17)])) rfl (by rw [hml]; rfl) (argsL := [(.ref ck13)]) (rest := []) (lenOf pd_oLjava_lang_Object_cZ rfl) rfl (wk rfl rfl) (hb hby at_644)
    obtain ⟨rfl, e19, rfl⟩ := q19
    have N19 := Fr.app N18 (Fr.nil n0)
    refine Fin.go st19 ?_
    show Fin _ _ _ _ _ _ _ _ T19 (mkF m 647 #[vi p0, vi p1, vi p2, vi p3, vi x1, vi x2, vi x3, vi (p3 &&& (3 : Int32)), vr a11, vr a12, vr u13, vr a11, vr g13] [(.int (1 : Int32))])
    refine .go (fun _ k => XS.ifNo X19.here hx rfl (hb hby at_647) rfl (XT.i0_eq_f (by decide)) k) ?_
    show Fin _ _ _ _ _ _ _ _ T19 (mkF m 650 #[vi p0, vi p1, vi p2, vi p3, vi x1, vi x2, vi x3, vi (p3 &&& (3 : Int32)), vr a11, vr a12, vr u13, vr a11, vr g13] [])
    refine .go (fun _ k => XS.aload X19.here hx rfl (hb hby at_650) rfl rfl k) ?_
    refine .go (fun _ k => XS.ifnullNo X19.here hx rfl (hb hby at_652) rfl k) ?_
    refine .go (fun _ k => XS.aload X19.here hx rfl (hb hby at_655) rfl rfl k) ?_
    refine .go (fun _ k => XS.aload X19.here hx rfl (hb hby at_657) rfl rfl k) ?_
    show Fin _ _ _ _ _ _ _ _ T19 (mkF m 659 #[vi p0, vi p1, vi p2, vi p3, vi x1, vi x2, vi x3, vi (p3 &&& (3 : Int32)), vr a11, vr a12, vr u13, vr a11, vr g13] [(.ref a11), (.ref a11)])
    obtain ⟨v20, T20, L20, X20, q20, st20⟩ := callVt X19 hx hZ17 (y := (⟨"java/lang/String", "equals", "(Ljava/lang/Object;)Z"⟩ : MethodName)) hown17 (hw _ w_236) (hw _ w_237) (hw _ w_239) (hw _ w_238) (hw _ w_3) (hw _ w_240) (by decide) (W := 0) (rmEqX l Z a0 hw n0 h17 O17 a11 a11 0 0 [] h11.size h11.size (by decide) (((Z11.ext E12).keep Kq13 all0).ext E17) (((Z11.ext E12).keep Kq13 all0).ext E17) cs S_cs hcs) e19 (((Z11.ext E12).keep Kq13 all0).ext E17).exa (by decide) (by decide) (by decide) (by decide) (g := (mkF m 659 #[vi p0, vi p1, vi p2, vi p3, vi x1, vi x2, vi x3, vi (p3 &&& (3 : Int32)), vr a11, vr a12, vr u13, vr a11, vr g13] [(.ref a11), (.ref a11)])) rfl (by rw [hml]; rfl) (argsL := [(.ref a11)]) (rest := []) (lenOf pd_oLjava_lang_Object_cZ rfl) rfl (wk rfl rfl) (hb hby at_659)
    obtain ⟨rfl, e20, rfl⟩ := q20
    have N20 := Fr.app N19 (Fr.nil n0)
    refine Fin.go st20 ?_
    show Fin _ _ _ _ _ _ _ _ T20 (mkF m 662 #[vi p0, vi p1, vi p2, vi p3, vi x1, vi x2, vi x3, vi (p3 &&& (3 : Int32)), vr a11, vr a12, vr u13, vr a11, vr g13] [(.int (1 : Int32))])
    refine .go (fun _ k => XS.ifNo X20.here hx rfl (hb hby at_662) rfl (XT.i0_eq_f (by decide)) k) ?_
    show Fin _ _ _ _ _ _ _ _ T20 (mkF m 665 #[vi p0, vi p1, vi p2, vi p3, vi x1, vi x2, vi x3, vi (p3 &&& (3 : Int32)), vr a11, vr a12, vr u13, vr a11, vr g13] [])
    refine .go (fun _ k => XS.aload X20.here hx rfl (hb hby at_665) rfl rfl k) ?_
    refine .go (fun _ k => XS.ifnullNo X20.here hx rfl (hb hby at_667) rfl k) ?_
    refine .go (fun _ k => XS.aload X20.here hx rfl (hb hby at_670) rfl rfl k) ?_
    refine .go (fun _ k => XS.aload X20.here hx rfl (hb hby at_672) rfl rfl k) ?_
    show Fin _ _ _ _ _ _ _ _ T20 (mkF m 674 #[vi p0, vi p1, vi p2, vi p3, vi x1, vi x2, vi x3, vi (p3 &&& (3 : Int32)), vr a11, vr a12, vr u13, vr a11, vr g13] [(.ref g13), (.ref a12)])
    obtain ⟨v21, T21, L21, X21, q21, st21⟩ := callVt X20 hx hZ17 (y := (⟨"java/lang/String", "equals", "(Ljava/lang/Object;)Z"⟩ : MethodName)) hown17 (hw _ w_236) (hw _ w_237) (hw _ w_239) (hw _ w_238) (hw _ w_3) (hw _ w_240) (by decide) (W := 0) (rmEqX l Z a0 hw n0 h17 O17 a12 g13 0 cg13 ((tPre ++ []) ++ tPost) h12.size T13.heap.size (by decide) ((Z12.keep Kq13 all0).ext E17) (Zg13.ext E17) cs S_cs hcs) e20 ((Z12.keep Kq13 all0).ext E17).exa (by decide) (by decide) (by decide) (by decide) (g := (mkF m 674 #[vi p0, vi p1, vi p2, vi p3, vi x1, vi x2, vi x3, vi (p3 &&& (3 : Int32)), vr a11, vr a12, vr u13, vr a11, vr g13] [(.ref g13), (.ref a12)])) rfl (by rw [hml]; rfl) (argsL := [(.ref g13)]) (rest := []) (lenOf pd_oLjava_lang_Object_cZ rfl) rfl (wk rfl rfl) (hb hby at_674)
    obtain ⟨rfl, e21, rfl⟩ := q21
    have N21 := Fr.app N20 (Fr.nil n0)
    refine Fin.go st21 ?_
    show Fin _ _ _ _ _ _ _ _ T21 (mkF m 677 #[vi p0, vi p1, vi p2, vi p3, vi x1, vi x2, vi x3, vi (p3 &&& (3 : Int32)), vr a11, vr a12, vr u13, vr a11, vr g13] [(.int (1 : Int32))])
    refine .go (fun _ k => XS.ifNo X21.here hx rfl (hb hby at_677) rfl (XT.i0_eq_f (by decide)) k) ?_
    show Fin _ _ _ _ _ _ _ _ T21 (mkF m 680 #[vi p0, vi p1, vi p2, vi p3, vi x1, vi x2, vi x3, vi (p3 &&& (3 : Int32)), vr a11, vr a12, vr u13, vr a11, vr g13] [])
    refine .go (fun _ k => XS.iconst X21.here hx rfl (hb hby at_680) k) ?_
    refine .go (fun _ k => XS.goto X21.here hx rfl (pc0 := 681) (pc' := 685) rfl (hb hby at_681) (by decide) (by decide) k) ?_
    exact Fin.leaveH X21 hS17 hj17 hZ17 hEL e21 RR17 hlk (v := some (.int (nar .boolean (1 : Int32)))) (nvS hret) (by decide) (by decide) ⟨rfl, N21⟩ (fun fs hr => retN X21 hx (t := .boolean) hret (by simp) (hb hby at_685) hr)
  · refine .go (fun _ k => XS.ifYes X0.here hx rfl (pc0 := 28) (pc' := 42) rfl (hb hby at_28) rfl (XT.i0_ne_t c28) (by decide) (by decide) k) ?_
    show Fin _ _ _ _ _ _ _ _ s₁ (mkF m 42 #[vi p0, vi p1, vi p2, vi p3, vi x1, vi x2, vi x3, vi (p3 &&& (3 : Int32)), .unset, .unset, .unset, .unset, .unset] [])
    refine .go (fun _ k => XS.iload X0.here hx rfl (hb hby at_42) rfl k) ?_
    refine .go (fun _ k => XS.iconst X0.here hx rfl (hb hby at_44) k) ?_
    by_cases c45 : (p3 &&& (3 : Int32)) = (1 : Int32)
    · refine .go (fun _ k => XS.icmpNo X0.here hx rfl (hb hby at_45) rfl (XT.ii_ne_f c45) k) ?_
      show Fin _ _ _ _ _ _ _ _ s₁ (mkF m 48 #[vi p0, vi p1, vi p2, vi p3, vi x1, vi x2, vi x3, vi (p3 &&& (3 : Int32)), .unset, .unset, .unset, .unset, .unset] [])
      refine .go (fun _ k => XS.iload X0.here hx rfl (hb hby at_48) rfl k) ?_
      obtain ⟨v22, T22, L22, X22, q22, st22⟩ := callSt X0 hx hZ hown (hw _ w_1) (hw _ w_2) (hw _ w_3) (hw _ w_4) (by decide) (W := 0) (rmVo l Z a0 hw n0 h0 O x1 cs S_cs hcs S_as S_hb S_lb) e0 (by decide) (by decide) (by decide) (by decide) (g := (mkF m 50 #[vi p0, vi p1, vi p2, vi p3, vi x1, vi x2, vi x3, vi (p3 &&& (3 : Int32)), .unset, .unset, .unset, .unset, .unset] [(.int x1)])) rfl (by rw [hml]; rfl) (argsL := [(.int x1)]) (rest := []) (lenOf pd_oCcLjava_lang_String_ rfl) rfl (wk rfl rfl) (hb hby at_50)
      obtain ⟨a22, co22, rfl, Nq22, Kq22, Z22⟩ := q22
      have N22 := Fr.app N0 Nq22
      have O22 := O.keep Kq22 all0
      have RR22 := RR0.trans (CHr.keep Kq22 sf0 RR0.1)
      have hk22 := Nat.le_trans (Nat.zero_le _) Kq22.1
      refine Fin.go st22 ?_
      show Fin _ _ _ _ _ _ _ _ T22 (mkF m 53 #[vi p0, vi p1, vi p2, vi p3, vi x1, vi x2, vi x3, vi (p3 &&& (3 : Int32)), .unset, .unset, .unset, .unset, .unset] [(.ref a22)])
      refine .go (fun _ k => XS.astore X22.here hx rfl (hb hby at_53) rfl rfl (l' := #[vi p0, vi p1, vi p2, vi p3, vi x1, vi x2, vi x3, vi (p3 &&& (3 : Int32)), vr a22, .unset, .unset, .unset, .unset]) rfl k) ?_
      obtain ⟨T23, h23, X23, e23, E23, A23, D23, U23, st23⟩ := newO X22 hx hZ hown (hw _ w_27) (hw _ w_11) (hw _ w_3) (rfl : T22.heap = T22.heap) (g := (mkF m 55 #[vi p0, vi p1, vi p2, vi p3, vi x1, vi x2, vi x3, vi (p3 &&& (3 : Int32)), vr a22, .unset, .unset, .unset, .unset] [])) rfl (hb hby at_55) (by decide) (by decide)
      obtain ⟨a23, g23⟩ : ∃ z, z = T22.heap.size := ⟨_, rfl⟩
      rw [← g23] at A23 D23 U23 st23
      refine Fin.go st23 ?_
      have O23 := O22.ext E23
      have hk23 := Nat.le_trans hk22 E23.1
      have RR23 := RR22.trans (CHr.ext E23 RR22.1)
      have n23 : n0 ≤ a23 := by have := O22.2.1; have := O22.1; omega
      have sf23 := (Safe.new (Z := Z) (EL := EL) (vm := s.vm) (Nat.le_of_eq g23.symm)).ext E23 RR22.1
      have F23_value : Fld Z h23 a23 "java/lang/String" "value" "[B" .null := D23 (Or.inr (hw _ w_24)) (ty := (.array .byte)) (by decide)
      have F23_coder : Fld Z h23 a23 "java/lang/String" "coder" "B" (.int (0 : Int32)) := D23 (Or.inr (hw _ w_26)) (ty := .byte) (by decide)
      show Fin _ _ _ _ _ _ _ _ T23 (mkF m 58 #[vi p0, vi p1, vi p2, vi p3, vi x1, vi x2, vi x3, vi (p3 &&& (3 : Int32)), vr a22, .unset, .unset, .unset, .unset] [(.ref a23)])
      refine .go (fun _ k => XS.dup X23.here hx rfl (hb hby at_58) rfl rfl k) ?_
      refine .go (fun _ k => XS.bipush X23.here hx rfl (hb hby at_59) k) ?_
      obtain ⟨T24, h24, k24, X24, e24, E24, A24, st24⟩ := newP X23 hx hZ (aty := .char) (hw _ w_28) e23 (g := (mkF m 61 #[vi p0, vi p1, vi p2, vi p3, vi x1, vi x2, vi x3, vi (p3 &&& (3 : Int32)), vr a22, .unset, .unset, .unset, .unset] [(.int (25 : Int32)), (.ref a23), (.ref a23)])) rfl (hb hby at_61) rfl (by decide : ¬ ((25 : Int32) < (0 : Int32))) (cap := 25) (by decide) (by decide) (by decide) (by decide)
      obtain ⟨a24, g24⟩ : ∃ z, z = h23.size := ⟨_, rfl⟩
      rw [← g24] at A24 st24
      refine Fin.go st24 ?_
      have O24 := O23.ext E24
      have hk24 := Nat.le_trans hk23 E24.1
      have RR24 := RR23.trans (CHr.ext E24 RR23.1)
      have n24 : n0 ≤ a24 := by have := O23.2.1; have := O23.1; omega
      have V24 : Arv Z h24 a24 k24 .char (25 : Int32) [(.int (0 : Int32)), (.int (0 : Int32)), (.int (0 : Int32)), (.int (0 : Int32)), (.int (0 : Int32)), (.int (0 : Int32)), (.int (0 : Int32)), (.int (0 : Int32)), (.int (0 : Int32)), (.int (0 : Int32)), (.int (0 : Int32)), (.int (0 : Int32)), (.int (0 : Int32)), (.int (0 : Int32)), (.int (0 : Int32)), (.int (0 : Int32)), (.int (0 : Int32)), (.int (0 : Int32)), (.int (0 : Int32)), (.int (0 : Int32)), (.int (0 : Int32)), (.int (0 : Int32)), (.int (0 : Int32)), (.int (0 : Int32)), (.int (0 : Int32))] (.int (0 : Int32)) := (Arv.new A24 (by decide)).pad (pad_rep [] (.int (0 : Int32)) 25)
      show Fin _ _ _ _ _ _ _ _ T24 (mkF m 63 #[vi p0, vi p1, vi p2, vi p3, vi x1, vi x2, vi x3, vi (p3 &&& (3 : Int32)), vr a22, .unset, .unset, .unset, .unset] [(.ref a24), (.ref a23), (.ref a23)])
      have V25 := fillI (L := (tE [x1])) V24 rfl
      have KK25 := Keep.refl h24 ([a24] : List Addr)
      refine .go (fun _ k => XS.dup X24.here hx rfl (hb hby at_63) rfl rfl k) ?_
      refine .go (fun _ k => XS.iconst X24.here hx rfl (hb hby at_64) k) ?_
      refine .go (fun _ k => XS.bipush X24.here hx rfl (hb hby at_65) k) ?_
      obtain ⟨cz26, B26, q26, S26, M26, H26, G26⟩ := id V25
      obtain ⟨T26, h26, X26, e26, W26, st26⟩ := stC X24 hx hZ e24 B26 (j := (0 : Int32)) (inb_of S26 ⟨(by decide), (by decide)⟩) (g := (mkF m 67 #[vi p0, vi p1, vi p2, vi p3, vi x1, vi x2, vi x3, vi (p3 &&& (3 : Int32)), vr a22, .unset, .unset, .unset, .unset] [(.int (84 : Int32)), (.int (0 : Int32)), (.ref a24), (.ref a24), (.ref a23), (.ref a23)])) rfl rfl (hb hby at_67)
      refine Fin.go st26 ?_
      have V26 := fillV (L := (tE [x1])) (i := 0) (Arv.set B26 q26 S26 M26 H26 G26 (fits_nar_char _) W26 0 rfl (fillLt (show 0 < 25 from by decide))) (show nar .char (84 : Int32) = (84 : Int32) from by decide) (show 0 < 25 from by decide)
      have KK26 := KK25.wr W26 (Or.inl (List.mem_of_getElem? (i := 0) rfl))
      have N26 := Fr.snoc X26 N22 n24
      have O26 := O24.wr W26 n24
      have hk26 := Nat.le_trans hk24 (Keep.of_wr W26).1
      have RR26 := RR24.trans (CHr.wr W26 (Safe.arv hZ.alike V25 (by decide)) RR24.1)
      show Fin _ _ _ _ _ _ _ _ T26 (mkF m 68 #[vi p0, vi p1, vi p2, vi p3, vi x1, vi x2, vi x3, vi (p3 &&& (3 : Int32)), vr a22, .unset, .unset, .unset, .unset] [(.ref a24), (.ref a23), (.ref a23)])
      refine .go (fun _ k => XS.dup X26.here hx rfl (hb hby at_68) rfl rfl k) ?_
      refine .go (fun _ k => XS.iconst X26.here hx rfl (hb hby at_69) k) ?_
      refine .go (fun _ k => XS.bipush X26.here hx rfl (hb hby at_70) k) ?_
      obtain ⟨cz27, B27, q27, S27, M27, H27, G27⟩ := id V26
      obtain ⟨T27, h27, X27, e27, W27, st27⟩ := stC X26 hx hZ e26 B27 (j := (1 : Int32)) (inb_of S27 ⟨(by decide), (by decide)⟩) (g := (mkF m 72 #[vi p0, vi p1, vi p2, vi p3, vi x1, vi x2, vi x3, vi (p3 &&& (3 : Int32)), vr a22, .unset, .unset, .unset, .unset] [(.int (104 : Int32)), (.int (1 : Int32)), (.ref a24), (.ref a24), (.ref a23), (.ref a23)])) rfl rfl (hb hby at_72)
      refine Fin.go st27 ?_
      have V27 := fillV (L := (tE [x1])) (i := 1) (Arv.set B27 q27 S27 M27 H27 G27 (fits_nar_char _) W27 1 rfl (fillLt (show 1 < 25 from by decide))) (show nar .char (104 : Int32) = (104 : Int32) from by decide) (show 1 < 25 from by decide)
      have KK27 := KK26.wr W27 (Or.inl (List.mem_of_getElem? (i := 0) rfl))
      have N27 := Fr.snoc X27 N26 n24
      have O27 := O26.wr W27 n24
      have hk27 := Nat.le_trans hk26 (Keep.of_wr W27).1
      have RR27 := RR26.trans (CHr.wr W27 (Safe.arv hZ.alike V26 (by decide)) RR26.1)
      show Fin _ _ _ _ _ _ _ _ T27 (mkF m 73 #[vi p0, vi p1, vi p2, vi p3, vi x1, vi x2, vi x3, vi (p3 &&& (3 : Int32)), vr a22, .unset, .unset, .unset, .unset] [(.ref a24), (.ref a23), (.ref a23)])
      refine .go (fun _ k => XS.dup X27.here hx rfl (hb hby at_73) rfl rfl k) ?_
      refine .go (fun _ k => XS.iconst X27.here hx rfl (hb hby at_74) k) ?_
      refine .go (fun _ k => XS.bipush X27.here hx rfl (hb hby at_75) k) ?_
      obtain ⟨cz28, B28, q28, S28, M28, H28, G28⟩ := id V27
      obtain ⟨T28, h28, X28, e28, W28, st28⟩ := stC X27 hx hZ e27 B28 (j := (2 : Int32)) (inb_of S28 ⟨(by decide), (by decide)⟩) (g := (mkF m 77 #[vi p0, vi p1, vi p2, vi p3, vi x1, vi x2, vi x3, vi (p3 &&& (3 : Int32)), vr a22, .unset, .unset, .unset, .unset] [(.int (105 : Int32)), (.int (2 : Int32)), (.ref a24), (.ref a24), (.ref a23), (.ref a23)])) rfl rfl (hb hby at_77)
      refine Fin.go st28 ?_
      have V28 := fillV (L := (tE [x1])) (i := 2) (Arv.set B28 q28 S28 M28 H28 G28 (fits_nar_char _) W28 2 rfl (fillLt (show 2 < 25 from by decide))) (show nar .char (105 : Int32) = (105 : Int32) from by decide) (show 2 < 25 from by decide)
      have KK28 := KK27.wr W28 (Or.inl (List.mem_of_getElem? (i := 0) rfl))
      have N28 := Fr.snoc X28 N27 n24
      have O28 := O27.wr W28 n24
      have hk28 := Nat.le_trans hk27 (Keep.of_wr W28).1
      have RR28 := RR27.trans (CHr.wr W28 (Safe.arv hZ.alike V27 (by decide)) RR27.1)
      show Fin _ _ _ _ _ _ _ _ T28 (mkF m 78 #[vi p0, vi p1, vi p2, vi p3, vi x1, vi x2, vi x3, vi (p3 &&& (3 : Int32)), vr a22, .unset, .unset, .unset, .unset] [(.ref a24), (.ref a23), (.ref a23)])
      refine .go (fun _ k => XS.dup X28.here hx rfl (hb hby at_78) rfl rfl k) ?_
      refine .go (fun _ k => XS.iconst X28.here hx rfl (hb hby at_79) k) ?_
      refine .go (fun _ k => XS.bipush X28.here hx rfl (hb hby at_80) k) ?_
      obtain ⟨cz29, B29, q29, S29, M29, H29, G29⟩ := id V28
      obtain ⟨T29, h29, X29, e29, W29, st29⟩ := stC X28 hx hZ e28 B29 (j := (3 : Int32)) (inb_of S29 ⟨(by decide), (by decide)⟩) (g := (mkF m 82 #[vi p0, vi p1, vi p2, vi p3, vi x1, vi x2, vi x3, vi (p3 &&& (3 : Int32)), vr a22, .unset, .unset, .unset, .unset] [(.int (115 : Int32)), (.int (3 : Int32)), (.ref a24), (.ref a24), (.ref a23), (.ref a23)])) rfl rfl (hb hby at_82)
      refine Fin.go st29 ?_
      have V29 := fillV (L := (tE [x1])) (i := 3) (Arv.set B29 q29 S29 M29 H29 G29 (fits_nar_char _) W29 3 rfl (fillLt (show 3 < 25 from by decide))) (show nar .char (115 : Int32) = (115 : Int32) from by decide) (show 3 < 25 from by decide)
      have KK29 := KK28.wr W29 (Or.inl (List.mem_of_getElem? (i := 0) rfl))
      have N29 := Fr.snoc X29 N28 n24
      have O29 := O28.wr W29 n24
      have hk29 := Nat.le_trans hk28 (Keep.of_wr W29).1
      have RR29 := RR28.trans (CHr.wr W29 (Safe.arv hZ.alike V28 (by decide)) RR28.1)
      show Fin _ _ _ _ _ _ _ _ T29 (mkF m 83 #[vi p0, vi p1, vi p2, vi p3, vi x1, vi x2, vi x3, vi (p3 &&& (3 : Int32)), vr a22, .unset, .unset, .unset, .unset] [(.ref a24), (.ref a23), (.ref a23)])
      refine .go (fun _ k => XS.dup X29.here hx rfl (hb hby at_83) rfl rfl k) ?_
      refine .go (fun _ k => XS.iconst X29.here hx rfl (hb hby at_84) k) ?_
      refine .go (fun _ k => XS.bipush X29.here hx rfl (hb hby at_85) k) ?_
      obtain ⟨cz30, B30, q30, S30, M30, H30, G30⟩ := id V29
      obtain ⟨T30, h30, X30, e30, W30, st30⟩ := stC X29 hx hZ e29 B30 (j := (4 : Int32)) (inb_of S30 ⟨(by decide), (by decide)⟩) (g := (mkF m 87 #[vi p0, vi p1, vi p2, vi p3, vi x1, vi x2, vi x3, vi (p3 &&& (3 : Int32)), vr a22, .unset, .unset, .unset, .unset] [(.int (32 : Int32)), (.int (4 : Int32)), (.ref a24), (.ref a24), (.ref a23), (.ref a23)])) rfl rfl (hb hby at_87)
      refine Fin.go st30 ?_
      have V30 := fillV (L := (tE [x1])) (i := 4) (Arv.set B30 q30 S30 M30 H30 G30 (fits_nar_char _) W30 4 rfl (fillLt (show 4 < 25 from by decide))) (show nar .char (32 : Int32) = (32 : Int32) from by decide) (show 4 < 25 from by decide)
      have KK30 := KK29.wr W30 (Or.inl (List.mem_of_getElem? (i := 0) rfl))
      have N30 := Fr.snoc X30 N29 n24
      have O30 := O29.wr W30 n24
      have hk30 := Nat.le_trans hk29 (Keep.of_wr W30).1
      have RR30 := RR29.trans (CHr.wr W30 (Safe.arv hZ.alike V29 (by decide)) RR29.1)
      show Fin _ _ _ _ _ _ _ _ T30 (mkF m 88 #[vi p0, vi p1, vi p2, vi p3, vi x1, vi x2, vi x3, vi (p3 &&& (3 : Int32)), vr a22, .unset, .unset, .unset, .unset] [(.ref a24), (.ref a23), (.ref a23)])
      refine .go (fun _ k => XS.dup X30.here hx rfl (hb hby at_88) rfl rfl k) ?_
      refine .go (fun _ k => XS.iconst X30.here hx rfl (hb hby at_89) k) ?_
      refine .go (fun _ k => XS.bipush X30.here hx rfl (hb hby at_90) k) ?_
      obtain ⟨cz31, B31, q31, S31, M31, H31, G31⟩ := id V30
      obtain ⟨T31, h31, X31, e31, W31, st31⟩ := stC X30 hx hZ e30 B31 (j := (5 : Int32)) (inb_of S31 ⟨(by decide), (by decide)⟩) (g := (mkF m 92 #[vi p0, vi p1, vi p2, vi p3, vi x1, vi x2, vi x3, vi (p3 &&& (3 : Int32)), vr a22, .unset, .unset, .unset, .unset] [(.int (112 : Int32)), (.int (5 : Int32)), (.ref a24), (.ref a24), (.ref a23), (.ref a23)])) rfl rfl (hb hby at_92)
      refine Fin.go st31 ?_
      have V31 := fillV (L := (tE [x1])) (i := 5) (Arv.set B31 q31 S31 M31 H31 G31 (fits_nar_char _) W31 5 rfl (fillLt (show 5 < 25 from by decide))) (show nar .char (112 : Int32) = (112 : Int32) from by decide) (show 5 < 25 from by decide)
      have KK31 := KK30.wr W31 (Or.inl (List.mem_of_getElem? (i := 0) rfl))
      have N31 := Fr.snoc X31 N30 n24
      have O31 := O30.wr W31 n24
      have hk31 := Nat.le_trans hk30 (Keep.of_wr W31).1
      have RR31 := RR30.trans (CHr.wr W31 (Safe.arv hZ.alike V30 (by decide)) RR30.1)
      show Fin _ _ _ _ _ _ _ _ T31 (mkF m 93 #[vi p0, vi p1, vi p2, vi p3, vi x1, vi x2, vi x3, vi (p3 &&& (3 : Int32)), vr a22, .unset, .unset, .unset, .unset] [(.ref a24), (.ref a23), (.ref a23)])
      refine .go (fun _ k => XS.dup X31.here hx rfl (hb hby at_93) rfl rfl k) ?_
      refine .go (fun _ k => XS.bipush X31.here hx rfl (hb hby at_94) k) ?_
      refine .go (fun _ k => XS.bipush X31.here hx rfl (hb hby at_96) k) ?_
      obtain ⟨cz32, B32, q32, S32, M32, H32, G32⟩ := id V31
      obtain ⟨T32, h32, X32, e32, W32, st32⟩ := stC X31 hx hZ e31 B32 (j := (6 : Int32)) (inb_of S32 ⟨(by decide), (by decide)⟩) (g := (mkF m 98 #[vi p0, vi p1, vi p2, vi p3, vi x1, vi x2, vi x3, vi (p3 &&& (3 : Int32)), vr a22, .unset, .unset, .unset, .unset] [(.int (97 : Int32)), (.int (6 : Int32)), (.ref a24), (.ref a24), (.ref a23), (.ref a23)])) rfl rfl (hb hby at_98)
      refine Fin.go st32 ?_
      have V32 := fillV (L := (tE [x1])) (i := 6) (Arv.set B32 q32 S32 M32 H32 G32 (fits_nar_char _) W32 6 rfl (fillLt (show 6 < 25 from by decide))) (show nar .char (97 : Int32) = (97 : Int32) from by decide) (show 6 < 25 from by decide)
      have KK32 := KK31.wr W32 (Or.inl (List.mem_of_getElem? (i := 0) rfl))
      have N32 := Fr.snoc X32 N31 n24
      have O32 := O31.wr W32 n24
      have hk32 := Nat.le_trans hk31 (Keep.of_wr W32).1
      have RR32 := RR31.trans (CHr.wr W32 (Safe.arv hZ.alike V31 (by decide)) RR31.1)
      show Fin _ _ _ _ _ _ _ _ T32 (mkF m 99 #[vi p0, vi p1, vi p2, vi p3, vi x1, vi x2, vi x3, vi (p3 &&& (3 : Int32)), vr a22, .unset, .unset, .unset, .unset] [(.ref a24), (.ref a23), (.ref a23)])
      refine .go (fun _ k => XS.dup X32.here hx rfl (hb hby at_99) rfl rfl k) ?_
      refine .go (fun _ k => XS.bipush X32.here hx rfl (hb hby at_100) k) ?_
      refine .go (fun _ k => XS.bipush X32.here hx rfl (hb hby at_102) k) ?_
      obtain ⟨cz33, B33, q33, S33, M33, H33, G33⟩ := id V32
      obtain ⟨T33, h33, X33, e33, W33, st33⟩ := stC X32 hx hZ e32 B33 (j := (7 : Int32)) (inb_of S33 ⟨(by decide), (by decide)⟩) (g := (mkF m 104 #[vi p0, vi p1, vi p2, vi p3, vi x1, vi x2, vi x3, vi (p3 &&& (3 : Int32)), vr a22, .unset, .unset, .unset, .unset] [(.int (116 : Int32)), (.int (7 : Int32)), (.ref a24), (.ref a24), (.ref a23), (.ref a23)])) rfl rfl (hb hby at_104)
      refine Fin.go st33 ?_
      have V33 := fillV (L := (tE [x1])) (i := 7) (Arv.set B33 q33 S33 M33 H33 G33 (fits_nar_char _) W33 7 rfl (fillLt (show 7 < 25 from by decide))) (show nar .char (116 : Int32) = (116 : Int32) from by decide) (show 7 < 25 from by decide)
      have KK33 := KK32.wr W33 (Or.inl (List.mem_of_getElem? (i := 0) rfl))
      have N33 := Fr.snoc X33 N32 n24
      have O33 := O32.wr W33 n24
      have hk33 := Nat.le_trans hk32 (Keep.of_wr W33).1
      have RR33 := RR32.trans (CHr.wr W33 (Safe.arv hZ.alike V32 (by decide)) RR32.1)
      show Fin _ _ _ _ _ _ _ _ T33 (mkF m 105 #[vi p0, vi p1, vi p2, vi p3, vi x1, vi x2, vi x3, vi (p3 &&& (3 : Int32)), vr a22, .unset, .unset, .unset, .unset] [(.ref a24), (.ref a23), (.ref a23)])
      refine .go (fun _ k => XS.dup X33.here hx rfl (hb hby at_105) rfl rfl k) ?_
      refine .go (fun _ k => XS.bipush X33.here hx rfl (hb hby at_106) k) ?_
      refine .go (fun _ k => XS.bipush X33.here hx rfl (hb hby at_108) k) ?_
      obtain ⟨cz34, B34, q34, S34, M34, H34, G34⟩ := id V33
      obtain ⟨T34, h34, X34, e34, W34, st34⟩ := stC X33 hx hZ e33 B34 (j := (8 : Int32)) (inb_of S34 ⟨(by decide), (by decide)⟩) (g := (mkF m 110 #[vi p0, vi p1, vi p2, vi p3, vi x1, vi x2, vi x3, vi (p3 &&& (3 : Int32)), vr a22, .unset, .unset, .unset, .unset] [(.int (104 : Int32)), (.int (8 : Int32)), (.ref a24), (.ref a24), (.ref a23), (.ref a23)])) rfl rfl (hb hby at_110)
      refine Fin.go st34 ?_
      have V34 := fillV (L := (tE [x1])) (i := 8) (Arv.set B34 q34 S34 M34 H34 G34 (fits_nar_char _) W34 8 rfl (fillLt (show 8 < 25 from by decide))) (show nar .char (104 : Int32) = (104 : Int32) from by decide) (show 8 < 25 from by decide)
      have KK34 := KK33.wr W34 (Or.inl (List.mem_of_getElem? (i := 0) rfl))
      have N34 := Fr.snoc X34 N33 n24
      have O34 := O33.wr W34 n24
      have hk34 := Nat.le_trans hk33 (Keep.of_wr W34).1
      have RR34 := RR33.trans (CHr.wr W34 (Safe.arv hZ.alike V33 (by decide)) RR33.1)
      show Fin _ _ _ _ _ _ _ _ T34 (mkF m 111 #[vi p0, vi p1, vi p2, vi p3, vi x1, vi x2, vi x3, vi (p3 &&& (3 : Int32)), vr a22, .unset, .unset, .unset, .unset] [(.ref a24), (.ref a23), (.ref a23)])
      refine .go (fun _ k => XS.dup X34.here hx rfl (hb hby at_111) rfl rfl k) ?_
      refine .go (fun _ k => XS.bipush X34.here hx rfl (hb hby at_112) k) ?_
      refine .go (fun _ k => XS.bipush X34.here hx rfl (hb hby at_114) k) ?_
      obtain ⟨cz35, B35, q35, S35, M35, H35, G35⟩ := id V34
      obtain ⟨T35, h35, X35, e35, W35, st35⟩ := stC X34 hx hZ e34 B35 (j := (9 : Int32)) (inb_of S35 ⟨(by decide), (by decide)⟩) (g := (mkF m 116 #[vi p0, vi p1, vi p2, vi p3, vi x1, vi x2, vi x3, vi (p3 &&& (3 : Int32)), vr a22, .unset, .unset, .unset, .unset] [(.int (32 : Int32)), (.int (9 : Int32)), (.ref a24), (.ref a24), (.ref a23), (.ref a23)])) rfl rfl (hb hby at_116)
      refine Fin.go st35 ?_
      have V35 := fillV (L := (tE [x1])) (i := 9) (Arv.set B35 q35 S35 M35 H35 G35 (fits_nar_char _) W35 9 rfl (fillLt (show 9 < 25 from by decide))) (show nar .char (32 : Int32) = (32 : Int32) from by decide) (show 9 < 25 from by decide)
      have KK35 := KK34.wr W35 (Or.inl (List.mem_of_getElem? (i := 0) rfl))
      have N35 := Fr.snoc X35 N34 n24
      have O35 := O34.wr W35 n24
      have hk35 := Nat.le_trans hk34 (Keep.of_wr W35).1
      have RR35 := RR34.trans (CHr.wr W35 (Safe.arv hZ.alike V34 (by decide)) RR34.1)
      show Fin _ _ _ _ _ _ _ _ T35 (mkF m 117 #[vi p0, vi p1, vi p2, vi p3, vi x1, vi x2, vi x3, vi (p3 &&& (3 : Int32)), vr a22, .unset, .unset, .unset, .unset] [(.ref a24), (.ref a23), (.ref a23)])
      refine .go (fun _ k => XS.dup X35.here hx rfl (hb hby at_117) rfl rfl k) ?_
      refine .go (fun _ k => XS.bipush X35.here hx rfl (hb hby at_118) k) ?_
      refine .go (fun _ k => XS.bipush X35.here hx rfl (hb hby at_120) k) ?_
      obtain ⟨cz36, B36, q36, S36, M36, H36, G36⟩ := id V35
      obtain ⟨T36, h36, X36, e36, W36, st36⟩ := stC X35 hx hZ e35 B36 (j := (10 : Int32)) (inb_of S36 ⟨(by decide), (by decide)⟩) (g := (mkF m 122 #[vi p0, vi p1, vi p2, vi p3, vi x1, vi x2, vi x3, vi (p3 &&& (3 : Int32)), vr a22, .unset, .unset, .unset, .unset] [(.int (97 : Int32)), (.int (10 : Int32)), (.ref a24), (.ref a24), (.ref a23), (.ref a23)])) rfl rfl (hb hby at_122)
      refine Fin.go st36 ?_
      have V36 := fillV (L := (tE [x1])) (i := 10) (Arv.set B36 q36 S36 M36 H36 G36 (fits_nar_char _) W36 10 rfl (fillLt (show 10 < 25 from by decide))) (show nar .char (97 : Int32) = (97 : Int32) from by decide) (show 10 < 25 from by decide)
      have KK36 := KK35.wr W36 (Or.inl (List.mem_of_getElem? (i := 0) rfl))
      have N36 := Fr.snoc X36 N35 n24
      have O36 := O35.wr W36 n24
      have hk36 := Nat.le_trans hk35 (Keep.of_wr W36).1
      have RR36 := RR35.trans (CHr.wr W36 (Safe.arv hZ.alike V35 (by decide)) RR35.1)
      show Fin _ _ _ _ _ _ _ _ T36 (mkF m 123 #[vi p0, vi p1, vi p2, vi p3, vi x1, vi x2, vi x3, vi (p3 &&& (3 : Int32)), vr a22, .unset, .unset, .unset, .unset] [(.ref a24), (.ref a23), (.ref a23)])
      refine .go (fun _ k => XS.dup X36.here hx rfl (hb hby at_123) rfl rfl k) ?_
      refine .go (fun _ k => XS.bipush X36.here hx rfl (hb hby at_124) k) ?_
      refine .go (fun _ k => XS.bipush X36.here hx rfl (hb hby at_126) k) ?_
      obtain ⟨cz37, B37, q37, S37, M37, H37, G37⟩ := id V36
      obtain ⟨T37, h37, X37, e37, W37, st37⟩ := stC X36 hx hZ e36 B37 (j := (11 : Int32)) (inb_of S37 ⟨(by decide), (by decide)⟩) (g := (mkF m 128 #[vi p0, vi p1, vi p2, vi p3, vi x1, vi x2, vi x3, vi (p3 &&& (3 : Int32)), vr a22, .unset, .unset, .unset, .unset] [(.int (110 : Int32)), (.int (11 : Int32)), (.ref a24), (.ref a24), (.ref a23), (.ref a23)])) rfl rfl (hb hby at_128)
      refine Fin.go st37 ?_
      have V37 := fillV (L := (tE [x1])) (i := 11) (Arv.set B37 q37 S37 M37 H37 G37 (fits_nar_char _) W37 11 rfl (fillLt (show 11 < 25 from by decide))) (show nar .char (110 : Int32) = (110 : Int32) from by decide) (show 11 < 25 from by decide)
      have KK37 := KK36.wr W37 (Or.inl (List.mem_of_getElem? (i := 0) rfl))
      have N37 := Fr.snoc X37 N36 n24
      have O37 := O36.wr W37 n24
      have hk37 := Nat.le_trans hk36 (Keep.of_wr W37).1
      have RR37 := RR36.trans (CHr.wr W37 (Safe.arv hZ.alike V36 (by decide)) RR36.1)
      show Fin _ _ _ _ _ _ _ _ T37 (mkF m 129 #[vi p0, vi p1, vi p2, vi p3, vi x1, vi x2, vi x3, vi (p3 &&& (3 : Int32)), vr a22, .unset, .unset, .unset, .unset] [(.ref a24), (.ref a23), (.ref a23)])
      refine .go (fun _ k => XS.dup X37.here hx rfl (hb hby at_129) rfl rfl k) ?_
      refine .go (fun _ k => XS.bipush X37.here hx rfl (hb hby at_130) k) ?_
      refine .go (fun _ k => XS.bipush X37.here hx rfl (hb hby at_132) k) ?_
      obtain ⟨cz38, B38, q38, S38, M38, H38, G38⟩ := id V37
      obtain ⟨T38, h38, X38, e38, W38, st38⟩ := stC X37 hx hZ e37 B38 (j := (12 : Int32)) (inb_of S38 ⟨(by decide), (by decide)⟩) (g := (mkF m 134 #[vi p0, vi p1, vi p2, vi p3, vi x1, vi x2, vi x3, vi (p3 &&& (3 : Int32)), vr a22, .unset, .unset, .unset, .unset] [(.int (115 : Int32)), (.int (12 : Int32)), (.ref a24), (.ref a24), (.ref a23), (.ref a23)])) rfl rfl (hb hby at_134)
      refine Fin.go st38 ?_
      have V38 := fillV (L := (tE [x1])) (i := 12) (Arv.set B38 q38 S38 M38 H38 G38 (fits_nar_char _) W38 12 rfl (fillLt (show 12 < 25 from by decide))) (show nar .char (115 : Int32) = (115 : Int32) from by decide) (show 12 < 25 from by decide)
      have KK38 := KK37.wr W38 (Or.inl (List.mem_of_getElem? (i := 0) rfl))
      have N38 := Fr.snoc X38 N37 n24
      have O38 := O37.wr W38 n24
      have hk38 := Nat.le_trans hk37 (Keep.of_wr W38).1
      have RR38 := RR37.trans (CHr.wr W38 (Safe.arv hZ.alike V37 (by decide)) RR37.1)
      show Fin _ _ _ _ _ _ _ _ T38 (mkF m 135 #[vi p0, vi p1, vi p2, vi p3, vi x1, vi x2, vi x3, vi (p3 &&& (3 : Int32)), vr a22, .unset, .unset, .unset, .unset] [(.ref a24), (.ref a23), (.ref a23)])
      refine .go (fun _ k => XS.dup X38.here hx rfl (hb hby at_135) rfl rfl k) ?_
      refine .go (fun _ k => XS.bipush X38.here hx rfl (hb hby at_136) k) ?_
      refine .go (fun _ k => XS.bipush X38.here hx rfl (hb hby at_138) k) ?_
      obtain ⟨cz39, B39, q39, S39, M39, H39, G39⟩ := id V38
      obtain ⟨T39, h39, X39, e39, W39, st39⟩ := stC X38 hx hZ e38 B39 (j := (13 : Int32)) (inb_of S39 ⟨(by decide), (by decide)⟩) (g := (mkF m 140 #[vi p0, vi p1, vi p2, vi p3, vi x1, vi x2, vi x3, vi (p3 &&& (3 : Int32)), vr a22, .unset, .unset, .unset, .unset] [(.int (119 : Int32)), (.int (13 : Int32)), (.ref a24), (.ref a24), (.ref a23), (.ref a23)])) rfl rfl (hb hby at_140)
      refine Fin.go st39 ?_
      have V39 := fillV (L := (tE [x1])) (i := 13) (Arv.set B39 q39 S39 M39 H39 G39 (fits_nar_char _) W39 13 rfl (fillLt (show 13 < 25 from by decide))) (show nar .char (119 : Int32) = (119 : Int32) from by decide) (show 13 < 25 from by decide)
      have KK39 := KK38.wr W39 (Or.inl (List.mem_of_getElem? (i := 0) rfl))
      have N39 := Fr.snoc X39 N38 n24
      have O39 := O38.wr W39 n24
      have hk39 := Nat.le_trans hk38 (Keep.of_wr W39).1
      have RR39 := RR38.trans (CHr.wr W39 (Safe.arv hZ.alike V38 (by decide)) RR38.1)
      show Fin _ _ _ _ _ _ _ _ T39 (mkF m 141 #[vi p0, vi p1, vi p2, vi p3, vi x1, vi x2, vi x3, vi (p3 &&& (3 : Int32)), vr a22, .unset, .unset, .unset, .unset] [(.ref a24), (.ref a23), (.ref a23)])
      refine .go (fun _ k => XS.dup X39.here hx rfl (hb hby at_141) rfl rfl k) ?_
      refine .go (fun _ k => XS.bipush X39.here hx rfl (hb hby at_142) k) ?_
      refine .go (fun _ k => XS.bipush X39.here hx rfl (hb hby at_144) k) ?_
      obtain ⟨cz40, B40, q40, S40, M40, H40, G40⟩ := id V39
      obtain ⟨T40, h40, X40, e40, W40, st40⟩ := stC X39 hx hZ e39 B40 (j := (14 : Int32)) (inb_of S40 ⟨(by decide), (by decide)⟩) (g := (mkF m 146 #[vi p0, vi p1, vi p2, vi p3, vi x1, vi x2, vi x3, vi (p3 &&& (3 : Int32)), vr a22, .unset, .unset, .unset, .unset] [(.int (101 : Int32)), (.int (14 : Int32)), (.ref a24), (.ref a24), (.ref a23), (.ref a23)])) rfl rfl (hb hby at_146)
      refine Fin.go st40 ?_
      have V40 := fillV (L := (tE [x1])) (i := 14) (Arv.set B40 q40 S40 M40 H40 G40 (fits_nar_char _) W40 14 rfl (fillLt (show 14 < 25 from by decide))) (show nar .char (101 : Int32) = (101 : Int32) from by decide) (show 14 < 25 from by decide)
      have KK40 := KK39.wr W40 (Or.inl (List.mem_of_getElem? (i := 0) rfl))
      have N40 := Fr.snoc X40 N39 n24
      have O40 := O39.wr W40 n24
      have hk40 := Nat.le_trans hk39 (Keep.of_wr W40).1
      have RR40 := RR39.trans (CHr.wr W40 (Safe.arv hZ.alike V39 (by decide)) RR39.1)
      show Fin _ _ _ _ _ _ _ _ T40 (mkF m 147 #[vi p0, vi p1, vi p2, vi p3, vi x1, vi x2, vi x3, vi (p3 &&& (3 : Int32)), vr a22, .unset, .unset, .unset, .unset] [(.ref a24), (.ref a23), (.ref a23)])
      refine .go (fun _ k => XS.dup X40.here hx rfl (hb hby at_147) rfl rfl k) ?_
      refine .go (fun _ k => XS.bipush X40.here hx rfl (hb hby at_148) k) ?_
      refine .go (fun _ k => XS.bipush X40.here hx rfl (hb hby at_150) k) ?_
      obtain ⟨cz41, B41, q41, S41, M41, H41, G41⟩ := id V40
      obtain ⟨T41, h41, X41, e41, W41, st41⟩ := stC X40 hx hZ e40 B41 (j := (15 : Int32)) (inb_of S41 ⟨(by decide), (by decide)⟩) (g := (mkF m 152 #[vi p0, vi p1, vi p2, vi p3, vi x1, vi x2, vi x3, vi (p3 &&& (3 : Int32)), vr a22, .unset, .unset, .unset, .unset] [(.int (114 : Int32)), (.int (15 : Int32)), (.ref a24), (.ref a24), (.ref a23), (.ref a23)])) rfl rfl (hb hby at_152)
      refine Fin.go st41 ?_
      have V41 := fillV (L := (tE [x1])) (i := 15) (Arv.set B41 q41 S41 M41 H41 G41 (fits_nar_char _) W41 15 rfl (fillLt (show 15 < 25 from by decide))) (show nar .char (114 : Int32) = (114 : Int32) from by decide) (show 15 < 25 from by decide)
      have KK41 := KK40.wr W41 (Or.inl (List.mem_of_getElem? (i := 0) rfl))
      have N41 := Fr.snoc X41 N40 n24
      have O41 := O40.wr W41 n24
      have hk41 := Nat.le_trans hk40 (Keep.of_wr W41).1
      have RR41 := RR40.trans (CHr.wr W41 (Safe.arv hZ.alike V40 (by decide)) RR40.1)
      show Fin _ _ _ _ _ _ _ _ T41 (mkF m 153 #[vi p0, vi p1, vi p2, vi p3, vi x1, vi x2, vi x3, vi (p3 &&& (3 : Int32)), vr a22, .unset, .unset, .unset, .unset] [(.ref a24), (.ref a23), (.ref a23)])
      refine .go (fun _ k => XS.dup X41.here hx rfl (hb hby at_153) rfl rfl k) ?_
      refine .go (fun _ k => XS.bipush X41.here hx rfl (hb hby at_154) k) ?_
      refine .go (fun _ k => XS.bipush X41.here hx rfl (hb hby at_156) k) ?_
      obtain ⟨cz42, B42, q42, S42, M42, H42, G42⟩ := id V41
      obtain ⟨T42, h42, X42, e42, W42, st42⟩ := stC X41 hx hZ e41 B42 (j := (16 : Int32)) (inb_of S42 ⟨(by decide), (by decide)⟩) (g := (mkF m 158 #[vi p0, vi p1, vi p2, vi p3, vi x1, vi x2, vi x3, vi (p3 &&& (3 : Int32)), vr a22, .unset, .unset, .unset, .unset] [(.int (115 : Int32)), (.int (16 : Int32)), (.ref a24), (.ref a24), (.ref a23), (.ref a23)])) rfl rfl (hb hby at_158)
      refine Fin.go st42 ?_
      have V42 := fillV (L := (tE [x1])) (i := 16) (Arv.set B42 q42 S42 M42 H42 G42 (fits_nar_char _) W42 16 rfl (fillLt (show 16 < 25 from by decide))) (show nar .char (115 : Int32) = (115 : Int32) from by decide) (show 16 < 25 from by decide)
      have KK42 := KK41.wr W42 (Or.inl (List.mem_of_getElem? (i := 0) rfl))
      have N42 := Fr.snoc X42 N41 n24
      have O42 := O41.wr W42 n24
      have hk42 := Nat.le_trans hk41 (Keep.of_wr W42).1
      have RR42 := RR41.trans (CHr.wr W42 (Safe.arv hZ.alike V41 (by decide)) RR41.1)
      show Fin _ _ _ _ _ _ _ _ T42 (mkF m 159 #[vi p0, vi p1, vi p2, vi p3, vi x1, vi x2, vi x3, vi (p3 &&& (3 : Int32)), vr a22, .unset, .unset, .unset, .unset] [(.ref a24), (.ref a23), (.ref a23)])
      refine .go (fun _ k => XS.dup X42.here hx rfl (hb hby at_159) rfl rfl k) ?_
      refine .go (fun _ k => XS.bipush X42.here hx rfl (hb hby at_160) k) ?_
      refine .go (fun _ k => XS.bipush X42.here hx rfl (hb hby at_162) k) ?_
      obtain ⟨cz43, B43, q43, S43, M43, H43, G43⟩ := id V42
      obtain ⟨T43, h43, X43, e43, W43, st43⟩ := stC X42 hx hZ e42 B43 (j := (17 : Int32)) (inb_of S43 ⟨(by decide), (by decide)⟩) (g := (mkF m 164 #[vi p0, vi p1, vi p2, vi p3, vi x1, vi x2, vi x3, vi (p3 &&& (3 : Int32)), vr a22, .unset, .unset, .unset, .unset] [(.int (32 : Int32)), (.int (17 : Int32)), (.ref a24), (.ref a24), (.ref a23), (.ref a23)])) rfl rfl (hb hby at_164)
      refine Fin.go st43 ?_
      have V43 := fillV (L := (tE [x1])) (i := 17) (Arv.set B43 q43 S43 M43 H43 G43 (fits_nar_char _) W43 17 rfl (fillLt (show 17 < 25 from by decide))) (show nar .char (32 : Int32) = (32 : Int32) from by decide) (show 17 < 25 from by decide)
      have KK43 := KK42.wr W43 (Or.inl (List.mem_of_getElem? (i := 0) rfl))
      have N43 := Fr.snoc X43 N42 n24
      have O43 := O42.wr W43 n24
      have hk43 := Nat.le_trans hk42 (Keep.of_wr W43).1
      have RR43 := RR42.trans (CHr.wr W43 (Safe.arv hZ.alike V42 (by decide)) RR42.1)
      show Fin _ _ _ _ _ _ _ _ T43 (mkF m 165 #[vi p0, vi p1, vi p2, vi p3, vi x1, vi x2, vi x3, vi (p3 &&& (3 : Int32)), vr a22, .unset, .unset, .unset, .unset] [(.ref a24), (.ref a23), (.ref a23)])
      refine .go (fun _ k => XS.dup X43.here hx rfl (hb hby at_165) rfl rfl k) ?_
      refine .go (fun _ k => XS.bipush X43.here hx rfl (hb hby at_166) k) ?_
      refine .go (fun _ k => XS.iload X43.here hx rfl (hb hby at_168) rfl k) ?_
      obtain ⟨cz44, B44, q44, S44, M44, H44, G44⟩ := id V43
      obtain ⟨T44, h44, X44, e44, W44, st44⟩ := stC X43 hx hZ e43 B44 (j := (18 : Int32)) (inb_of S44 ⟨(by decide), (by decide)⟩) (g := (mkF m 170 #[vi p0, vi p1, vi p2, vi p3, vi x1, vi x2, vi x3, vi (p3 &&& (3 : Int32)), vr a22, .unset, .unset, .unset, .unset] [(.int x1), (.int (18 : Int32)), (.ref a24), (.ref a24), (.ref a23), (.ref a23)])) rfl rfl (hb hby at_170)
      refine Fin.go st44 ?_
      have V44 := fillV (L := (tE [x1])) (i := 18) (Arv.set B44 q44 S44 M44 H44 G44 (fits_nar_char _) W44 18 rfl (fillLt (show 18 < 25 from by decide))) (narC _ hx1) (show 18 < 25 from by decide)
      have KK44 := KK43.wr W44 (Or.inl (List.mem_of_getElem? (i := 0) rfl))
      have N44 := Fr.snoc X44 N43 n24
      have O44 := O43.wr W44 n24
      have hk44 := Nat.le_trans hk43 (Keep.of_wr W44).1
      have RR44 := RR43.trans (CHr.wr W44 (Safe.arv hZ.alike V43 (by decide)) RR43.1)
      show Fin _ _ _ _ _ _ _ _ T44 (mkF m 171 #[vi p0, vi p1, vi p2, vi p3, vi x1, vi x2, vi x3, vi (p3 &&& (3 : Int32)), vr a22, .unset, .unset, .unset, .unset] [(.ref a24), (.ref a23), (.ref a23)])
      refine .go (fun _ k => XS.dup X44.here hx rfl (hb hby at_171) rfl rfl k) ?_
      refine .go (fun _ k => XS.bipush X44.here hx rfl (hb hby at_172) k) ?_
      refine .go (fun _ k => XS.bipush X44.here hx rfl (hb hby at_174) k) ?_
      obtain ⟨cz45, B45, q45, S45, M45, H45, G45⟩ := id V44
      obtain ⟨T45, h45, X45, e45, W45, st45⟩ := stC X44 hx hZ e44 B45 (j := (19 : Int32)) (inb_of S45 ⟨(by decide), (by decide)⟩) (g := (mkF m 176 #[vi p0, vi p1, vi p2, vi p3, vi x1, vi x2, vi x3, vi (p3 &&& (3 : Int32)), vr a22, .unset, .unset, .unset, .unset] [(.int (32 : Int32)), (.int (19 : Int32)), (.ref a24), (.ref a24), (.ref a23), (.ref a23)])) rfl rfl (hb hby at_176)
      refine Fin.go st45 ?_
      have V45 := fillV (L := (tE [x1])) (i := 19) (Arv.set B45 q45 S45 M45 H45 G45 (fits_nar_char _) W45 19 rfl (fillLt (show 19 < 25 from by decide))) (show nar .char (32 : Int32) = (32 : Int32) from by decide) (show 19 < 25 from by decide)
      have KK45 := KK44.wr W45 (Or.inl (List.mem_of_getElem? (i := 0) rfl))
      have N45 := Fr.snoc X45 N44 n24
      have O45 := O44.wr W45 n24
      have hk45 := Nat.le_trans hk44 (Keep.of_wr W45).1
      have RR45 := RR44.trans (CHr.wr W45 (Safe.arv hZ.alike V44 (by decide)) RR44.1)
      show Fin _ _ _ _ _ _ _ _ T45 (mkF m 177 #[vi p0, vi p1, vi p2, vi p3, vi x1, vi x2, vi x3, vi (p3 &&& (3 : Int32)), vr a22, .unset, .unset, .unset, .unset] [(.ref a24), (.ref a23), (.ref a23)])
      refine .go (fun _ k => XS.dup X45.here hx rfl (hb hby at_177) rfl rfl k) ?_
      refine .go (fun _ k => XS.bipush X45.here hx rfl (hb hby at_178) k) ?_
      refine .go (fun _ k => XS.bipush X45.here hx rfl (hb hby at_180) k) ?_
      obtain ⟨cz46, B46, q46, S46, M46, H46, G46⟩ := id V45
      obtain ⟨T46, h46, X46, e46, W46, st46⟩ := stC X45 hx hZ e45 B46 (j := (20 : Int32)) (inb_of S46 ⟨(by decide), (by decide)⟩) (g := (mkF m 182 #[vi p0, vi p1, vi p2, vi p3, vi x1, vi x2, vi x3, vi (p3 &&& (3 : Int32)), vr a22, .unset, .unset, .unset, .unset] [(.int (111 : Int32)), (.int (20 : Int32)), (.ref a24), (.ref a24), (.ref a23), (.ref a23)])) rfl rfl (hb hby at_182)
      refine Fin.go st46 ?_
      have V46 := fillV (L := (tE [x1])) (i := 20) (Arv.set B46 q46 S46 M46 H46 G46 (fits_nar_char _) W46 20 rfl (fillLt (show 20 < 25 from by decide))) (show nar .char (111 : Int32) = (111 : Int32) from by decide) (show 20 < 25 from by decide)
      have KK46 := KK45.wr W46 (Or.inl (List.mem_of_getElem? (i := 0) rfl))
      have N46 := Fr.snoc X46 N45 n24
      have O46 := O45.wr W46 n24
      have hk46 := Nat.le_trans hk45 (Keep.of_wr W46).1
      have RR46 := RR45.trans (CHr.wr W46 (Safe.arv hZ.alike V45 (by decide)) RR45.1)
      show Fin _ _ _ _ _ _ _ _ T46 (mkF m 183 #[vi p0, vi p1, vi p2, vi p3, vi x1, vi x2, vi x3, vi (p3 &&& (3 : Int32)), vr a22, .unset, .unset, .unset, .unset] [(.ref a24), (.ref a23), (.ref a23)])
      refine .go (fun _ k => XS.dup X46.here hx rfl (hb hby at_183) rfl rfl k) ?_
      refine .go (fun _ k => XS.bipush X46.here hx rfl (hb hby at_184) k) ?_
      refine .go (fun _ k => XS.bipush X46.here hx rfl (hb hby at_186) k) ?_
      obtain ⟨cz47, B47, q47, S47, M47, H47, G47⟩ := id V46
      obtain ⟨T47, h47, X47, e47, W47, st47⟩ := stC X46 hx hZ e46 B47 (j := (21 : Int32)) (inb_of S47 ⟨(by decide), (by decide)⟩) (g := (mkF m 188 #[vi p0, vi p1, vi p2, vi p3, vi x1, vi x2, vi x3, vi (p3 &&& (3 : Int32)), vr a22, .unset, .unset, .unset, .unset] [(.int (110 : Int32)), (.int (21 : Int32)), (.ref a24), (.ref a24), (.ref a23), (.ref a23)])) rfl rfl (hb hby at_188)
      refine Fin.go st47 ?_
      have V47 := fillV (L := (tE [x1])) (i := 21) (Arv.set B47 q47 S47 M47 H47 G47 (fits_nar_char _) W47 21 rfl (fillLt (show 21 < 25 from by decide))) (show nar .char (110 : Int32) = (110 : Int32) from by decide) (show 21 < 25 from by decide)
      have KK47 := KK46.wr W47 (Or.inl (List.mem_of_getElem? (i := 0) rfl))
      have N47 := Fr.snoc X47 N46 n24
      have O47 := O46.wr W47 n24
      have hk47 := Nat.le_trans hk46 (Keep.of_wr W47).1
      have RR47 := RR46.trans (CHr.wr W47 (Safe.arv hZ.alike V46 (by decide)) RR46.1)
      show Fin _ _ _ _ _ _ _ _ T47 (mkF m 189 #[vi p0, vi p1, vi p2, vi p3, vi x1, vi x2, vi x3, vi (p3 &&& (3 : Int32)), vr a22, .unset, .unset, .unset, .unset] [(.ref a24), (.ref a23), (.ref a23)])
      refine .go (fun _ k => XS.dup X47.here hx rfl (hb hby at_189) rfl rfl k) ?_
      refine .go (fun _ k => XS.bipush X47.here hx rfl (hb hby at_190) k) ?_
      refine .go (fun _ k => XS.bipush X47.here hx rfl (hb hby at_192) k) ?_
      obtain ⟨cz48, B48, q48, S48, M48, H48, G48⟩ := id V47
      obtain ⟨T48, h48, X48, e48, W48, st48⟩ := stC X47 hx hZ e47 B48 (j := (22 : Int32)) (inb_of S48 ⟨(by decide), (by decide)⟩) (g := (mkF m 194 #[vi p0, vi p1, vi p2, vi p3, vi x1, vi x2, vi x3, vi (p3 &&& (3 : Int32)), vr a22, .unset, .unset, .unset, .unset] [(.int (108 : Int32)), (.int (22 : Int32)), (.ref a24), (.ref a24), (.ref a23), (.ref a23)])) rfl rfl (hb hby at_194)
      refine Fin.go st48 ?_
      have V48 := fillV (L := (tE [x1])) (i := 22) (Arv.set B48 q48 S48 M48 H48 G48 (fits_nar_char _) W48 22 rfl (fillLt (show 22 < 25 from by decide))) (show nar .char (108 : Int32) = (108 : Int32) from by decide) (show 22 < 25 from by decide)
      have KK48 := KK47.wr W48 (Or.inl (List.mem_of_getElem? (i := 0) rfl))
      have N48 := Fr.snoc X48 N47 n24
      have O48 := O47.wr W48 n24
      have hk48 := Nat.le_trans hk47 (Keep.of_wr W48).1
      have RR48 := RR47.trans (CHr.wr W48 (Safe.arv hZ.alike V47 (by decide)) RR47.1)
      show Fin _ _ _ _ _ _ _ _ T48 (mkF m 195 #[vi p0, vi p1, vi p2, vi p3, vi x1, vi x2, vi x3, vi (p3 &&& (3 : Int32)), vr a22, .unset, .unset, .unset, .unset] [(.ref a24), (.ref a23), (.ref a23)])
      refine .go (fun _ k => XS.dup X48.here hx rfl (hb hby at_195) rfl rfl k) ?_
      refine .go (fun _ k => XS.bipush X48.here hx rfl (hb hby at_196) k) ?_
      refine .go (fun _ k => XS.bipush X48.here hx rfl (hb hby at_198) k) ?_
      obtain ⟨cz49, B49, q49, S49, M49, H49, G49⟩ := id V48
      obtain ⟨T49, h49, X49, e49, W49, st49⟩ := stC X48 hx hZ e48 B49 (j := (23 : Int32)) (inb_of S49 ⟨(by decide), (by decide)⟩) (g := (mkF m 200 #[vi p0, vi p1, vi p2, vi p3, vi x1, vi x2, vi x3, vi (p3 &&& (3 : Int32)), vr a22, .unset, .unset, .unset, .unset] [(.int (121 : Int32)), (.int (23 : Int32)), (.ref a24), (.ref a24), (.ref a23), (.ref a23)])) rfl rfl (hb hby at_200)
      refine Fin.go st49 ?_
      have V49 := fillV (L := (tE [x1])) (i := 23) (Arv.set B49 q49 S49 M49 H49 G49 (fits_nar_char _) W49 23 rfl (fillLt (show 23 < 25 from by decide))) (show nar .char (121 : Int32) = (121 : Int32) from by decide) (show 23 < 25 from by decide)
      have KK49 := KK48.wr W49 (Or.inl (List.mem_of_getElem? (i := 0) rfl))
      have N49 := Fr.snoc X49 N48 n24
      have O49 := O48.wr W49 n24
      have hk49 := Nat.le_trans hk48 (Keep.of_wr W49).1
      have RR49 := RR48.trans (CHr.wr W49 (Safe.arv hZ.alike V48 (by decide)) RR48.1)
      show Fin _ _ _ _ _ _ _ _ T49 (mkF m 201 #[vi p0, vi p1, vi p2, vi p3, vi x1, vi x2, vi x3, vi (p3 &&& (3 : Int32)), vr a22, .unset, .unset, .unset, .unset] [(.ref a24), (.ref a23), (.ref a23)])
      refine .go (fun _ k => XS.dup X49.here hx rfl (hb hby at_201) rfl rfl k) ?_
      refine .go (fun _ k => XS.bipush X49.here hx rfl (hb hby at_202) k) ?_
      refine .go (fun _ k => XS.bipush X49.here hx rfl (hb hby at_204) k) ?_
      obtain ⟨cz50, B50, q50, S50, M50, H50, G50⟩ := id V49
      obtain ⟨T50, h50, X50, e50, W50, st50⟩ := stC X49 hx hZ e49 B50 (j := (24 : Int32)) (inb_of S50 ⟨(by decide), (by decide)⟩) (g := (mkF m 206 #[vi p0, vi p1, vi p2, vi p3, vi x1, vi x2, vi x3, vi (p3 &&& (3 : Int32)), vr a22, .unset, .unset, .unset, .unset] [(.int (46 : Int32)), (.int (24 : Int32)), (.ref a24), (.ref a24), (.ref a23), (.ref a23)])) rfl rfl (hb hby at_206)
      refine Fin.go st50 ?_
      have V50 := fillV (L := (tE [x1])) (i := 24) (Arv.set B50 q50 S50 M50 H50 G50 (fits_nar_char _) W50 24 rfl (fillLt (show 24 < 25 from by decide))) (show nar .char (46 : Int32) = (46 : Int32) from by decide) (show 24 < 25 from by decide)
      have KK50 := KK49.wr W50 (Or.inl (List.mem_of_getElem? (i := 0) rfl))
      have N50 := Fr.snoc X50 N49 n24
      have O50 := O49.wr W50 n24
      have hk50 := Nat.le_trans hk49 (Keep.of_wr W50).1
      have RR50 := RR49.trans (CHr.wr W50 (Safe.arv hZ.alike V49 (by decide)) RR49.1)
      show Fin _ _ _ _ _ _ _ _ T50 (mkF m 207 #[vi p0, vi p1, vi p2, vi p3, vi x1, vi x2, vi x3, vi (p3 &&& (3 : Int32)), vr a22, .unset, .unset, .unset, .unset] [(.ref a24), (.ref a23), (.ref a23)])
      have Ve51 := fillE V50 (n := 25) rfl rfl
      have Z51_a22 := (((Z22.ext E23).ext E24).keep KK50 (allS (Nat.le_trans (Z22.ext E23).le (Nat.le_of_eq g24.symm)) all0))
      have sf51_a23 := (Safe.keep KK50 (sfS (Safe.arv hZ.alike V25 (by decide)) sf0) RR24.1 (sf23.ext E24 RR23.1))
      have F51_a23_value := ((F23_value.ext E24).keep KK50 (ninS (Nat.ne_of_lt (Nat.lt_of_lt_of_eq A23.lt g24.symm)) nin0))
      have F51_a23_coder := ((F23_coder.ext E24).keep KK50 (ninS (Nat.ne_of_lt (Nat.lt_of_lt_of_eq A23.lt g24.symm)) nin0))
      obtain ⟨v52, T52, L52, X52, q52, st52⟩ := callCt X50 hx hZ (y := (⟨"java/lang/String", "<init>", "([C)V"⟩ : MethodName)) rfl hown (hw _ w_29) (hw _ w_30) (hw _ w_3) (hw _ w_31) (by decide) (W := 1) (rmIG l Z a0 hw n0 h50 O50 a23 a24 k24 ((tPre ++ [x1]) ++ tPost) (show 0 < 25 from by decide) (show 25 ≤ 64 from by decide) (chG (chA (chA chPre (chS hx1 ch0)) chPost)) cs S_cs hcs Ve51 ((A23.ext E24).keep KK50) F51_a23_coder F51_a23_value S_as S_hb S_lb n23 (Ne.symm (Nat.ne_of_lt (Nat.lt_of_lt_of_eq A23.lt g24.symm)))) e50 (by decide) (by decide) (by decide) (by decide) (g := (mkF m 207 #[vi p0, vi p1, vi p2, vi p3, vi x1, vi x2, vi x3, vi (p3 &&& (3 : Int32)), vr a22, .unset, .unset, .unset, .unset] [(.ref a24), (.ref a23), (.ref a23)])) rfl (by rw [hml]; rfl) (a := a23) (argsL := [(.ref a24)]) (rest := [(.ref a23)]) (lenOf pd_oACcV rfl) rfl (wk rfl rfl) (hb hby at_207)
      obtain ⟨rfl, Nq52, Kq52, A52, co52, d52, kd52, C52, F52, V52, zd52⟩ := q52
      have N52 := Fr.app N50 Nq52
      have O52 := O50.keep Kq52 (allS n23 all0)
      have RR52 := RR50.trans (CHr.keep Kq52 (sfS sf51_a23 sf0) RR50.1)
      have hk52 := Nat.le_trans hk50 Kq52.1
      refine Fin.go st52 ?_
      have Z52_a22 := (Z51_a22.keep Kq52 (allS (Nat.le_trans Z22.le (Nat.le_of_eq g23.symm)) all0))
      show Fin _ _ _ _ _ _ _ _ T52 (mkF m 210 #[vi p0, vi p1, vi p2, vi p3, vi x1, vi x2, vi x3, vi (p3 &&& (3 : Int32)), vr a22, .unset, .unset, .unset, .unset] [(.ref a23)])
      have Z52 : SX Z T52.heap a23 co52 ((tPre ++ [x1]) ++ tPost) T52.heap.size := sxRaw A52 C52 F52 V52
      refine .go (fun _ k => XS.astore X52.here hx rfl (hb hby at_210) rfl rfl (l' := #[vi p0, vi p1, vi p2, vi p3, vi x1, vi x2, vi x3, vi (p3 &&& (3 : Int32)), vr a22, vr a23, .unset, .unset, .unset]) rfl k) ?_
      refine .go (fun _ k => XS.goto X52.here hx rfl (pc0 := 212) (pc' := 605) rfl (hb hby at_212) (by decide) (by decide) k) ?_
      refine .go (fun _ k => XS.aload X52.here hx rfl (hb hby at_605) rfl rfl k) ?_
      obtain ⟨v53, T53, L53, X53, hS53, hZ53, hown53, RC53, q53, st53⟩ := callStH X52 hx hZ (y := (⟨"com/example/spool/spool/http/HttpError", "methodNotAllowed", "(Ljava/lang/String;)Lcom/example/spool/spool/http/HttpError;"⟩ : MethodName)) hown (hw _ w_45) (hw _ w_46) (hw _ w_47) (hw _ w_48) (by decide) (W := 0) (rmMNA l Z a0 hw n0 T52.heap O52 a22 co22 [x1] T22.heap.size (show 1 ≤ 3 from by decide) (chS hx1 ch0) Z52_a22 cs S_cs hcs S_as S_hb S_lb fm hfm S_fm us hus S_us ss hss S_ss) (rfl : T52.heap = T52.heap) hS hk52 hEL RR52.1 (by decide) (by decide) (by decide) (by decide) (g := (mkF m 607 #[vi p0, vi p1, vi p2, vi p3, vi x1, vi x2, vi x3, vi (p3 &&& (3 : Int32)), vr a22, vr a23, .unset, .unset, .unset] [(.ref a22)])) rfl (by rw [hml]; rfl) (argsL := [(.ref a22)]) (rest := []) (lenOf pd_oLjava_lang_String_cLcom_example_spool_spool_http_HttpError_ rfl) rfl (wk rfl rfl) (hb hby at_607)
      obtain ⟨u53, ck53, g53, cg53, rfl, Nq53, Kq53, U53, U053, U153, U253, U353, Zc53, Zg53⟩ := q53
      have N53 := Fr.app N52 Nq53
      have O53 := O52.keep Kq53 all0
      have RR53 := RR52.trans RC53
      refine Fin.go st53 ?_
      show Fin _ _ _ _ _ _ _ _ T53 (mkF m 610 #[vi p0, vi p1, vi p2, vi p3, vi x1, vi x2, vi x3, vi (p3 &&& (3 : Int32)), vr a22, vr a23, .unset, .unset, .unset] [(.ref u53)])
      refine .go (fun _ k => XS.astore X53.here hx rfl (hb hby at_610) rfl rfl (l' := #[vi p0, vi p1, vi p2, vi p3, vi x1, vi x2, vi x3, vi (p3 &&& (3 : Int32)), vr a22, vr a23, vr u53, .unset, .unset]) rfl k) ?_
      refine .go (fun _ k => XS.aload X53.here hx rfl (hb hby at_612) rfl rfl k) ?_
      obtain ⟨v54, T54, L54, X54, q54, st54⟩ := callVt X53 hx hZ53 (y := (⟨"com/example/spool/spool/http/HttpError", "allowed", "()Ljava/lang/String;"⟩ : MethodName)) hown53 (hw _ w_214) (hw _ w_215) (hw _ w_217) (hw _ w_216) (hw _ w_47) (hw _ w_218) (by decide) (W := 0) (rmGa l Z a0 hw n0 T53.heap O53 u53 a22 U253) (rfl : T53.heap = T53.heap) U53 (by decide) (by decide) (by decide) (by decide) (g := (mkF m 614 #[vi p0, vi p1, vi p2, vi p3, vi x1, vi x2, vi x3, vi (p3 &&& (3 : Int32)), vr a22, vr a23, vr u53, .unset, .unset] [(.ref u53)])) rfl (by rw [hml]; rfl) (argsL := []) (rest := []) (lenOf pd_ocLjava_lang_String_ rfl) rfl (wk rfl rfl) (hb hby at_614)
      obtain ⟨rfl, e54, rfl⟩ := q54
      have N54 := Fr.app N53 (Fr.nil n0)
      refine Fin.go st54 ?_
      show Fin _ _ _ _ _ _ _ _ T54 (mkF m 617 #[vi p0, vi p1, vi p2, vi p3, vi x1, vi x2, vi x3, vi (p3 &&& (3 : Int32)), vr a22, vr a23, vr u53, .unset, .unset] [(.ref a22)])
      refine .go (fun _ k => XS.astore X54.here hx rfl (hb hby at_617) rfl rfl (l' := #[vi p0, vi p1, vi p2, vi p3, vi x1, vi x2, vi x3, vi (p3 &&& (3 : Int32)), vr a22, vr a23, vr u53, vr a22, .unset]) rfl k) ?_
      refine .go (fun _ k => XS.aload X54.here hx rfl (hb hby at_619) rfl rfl k) ?_
      obtain ⟨v55, T55, L55, X55, q55, st55⟩ := callVUt X54 hx hZ53 (y := (⟨"com/example/spool/spool/http/HttpError", "getMessage", "()Ljava/lang/String;"⟩ : MethodName)) (z := (⟨"java/lang/Throwable", "getMessage", "()Ljava/lang/String;"⟩ : MethodName)) (owner := "java/lang/Throwable") hown53 (hw _ w_219) (hw _ w_220) (hw _ w_221) (hw _ w_223) (hw _ w_222) (hw _ w_195) (hw _ w_224) (by decide) (W := 0) (rmGm l Z a0 hw n0 T53.heap O53 u53 g53 U353) e54 U53 (by decide) (by decide) (by decide) (by decide) (g := (mkF m 621 #[vi p0, vi p1, vi p2, vi p3, vi x1, vi x2, vi x3, vi (p3 &&& (3 : Int32)), vr a22, vr a23, vr u53, vr a22, .unset] [(.ref u53)])) rfl (by rw [hml]; rfl) (argsL := []) (rest := []) (lenOf pd_ocLjava_lang_String_ rfl) rfl (wk rfl rfl) (hb hby at_621)
      obtain ⟨rfl, e55, rfl⟩ := q55
      have N55 := Fr.app N54 (Fr.nil n0)
      refine Fin.go st55 ?_
      show Fin _ _ _ _ _ _ _ _ T55 (mkF m 624 #[vi p0, vi p1, vi p2, vi p3, vi x1, vi x2, vi x3, vi (p3 &&& (3 : Int32)), vr a22, vr a23, vr u53, vr a22, .unset] [(.ref g53)])
      refine .go (fun _ k => XS.astore X55.here hx rfl (hb hby at_624) rfl rfl (l' := #[vi p0, vi p1, vi p2, vi p3, vi x1, vi x2, vi x3, vi (p3 &&& (3 : Int32)), vr a22, vr a23, vr u53, vr a22, vr g53]) rfl k) ?_
      refine .go (fun _ k => XS.aload X55.here hx rfl (hb hby at_626) rfl rfl k) ?_
      obtain ⟨v56, T56, L56, X56, q56, st56⟩ := callVt X55 hx hZ53 (y := (⟨"com/example/spool/spool/http/HttpError", "status", "()I"⟩ : MethodName)) hown53 (hw _ w_225) (hw _ w_226) (hw _ w_228) (hw _ w_227) (hw _ w_47) (hw _ w_229) (by decide) (W := 0) (rmGs l Z a0 hw n0 T53.heap O53 u53 u53 U053) e55 U53 (by decide) (by decide) (by decide) (by decide) (g := (mkF m 628 #[vi p0, vi p1, vi p2, vi p3, vi x1, vi x2, vi x3, vi (p3 &&& (3 : Int32)), vr a22, vr a23, vr u53, vr a22, vr g53] [(.ref u53)])) rfl (by rw [hml]; rfl) (argsL := []) (rest := []) (lenOf pd_ocI rfl) rfl (wk rfl rfl) (hb hby at_628)
      obtain ⟨rfl, e56, rfl⟩ := q56
      have N56 := Fr.app N55 (Fr.nil n0)
      refine Fin.go st56 ?_
      show Fin _ _ _ _ _ _ _ _ T56 (mkF m 631 #[vi p0, vi p1, vi p2, vi p3, vi x1, vi x2, vi x3, vi (p3 &&& (3 : Int32)), vr a22, vr a23, vr u53, vr a22, vr g53] [(.int (405 : Int32))])
      refine .go (fun _ k => XS.sipush X56.here hx rfl (hb hby at_631) k) ?_
      refine .go (fun _ k => XS.icmpNo X56.here hx rfl (hb hby at_634) rfl (XT.ii_ne_f (by decide)) k) ?_
      show Fin _ _ _ _ _ _ _ _ T56 (mkF m 637 #[vi p0, vi p1, vi p2, vi p3, vi x1, vi x2, vi x3, vi (p3 &&& (3 : Int32)), vr a22, vr a23, vr u53, vr a22, vr g53] [])
      obtain ⟨a57, T57, h57, k57, b57, kb57, X57, e57, E57, hS57, hj57, hZ57, hown57, A57, C57, F57, V57, l157, l257, RC57, lt57, ns57, st57⟩ := ldcCH X56 hx hZ53 hown53 (hw _ w_230) (strW hw) e56 hS53 (Nat.le_refl T53.heap.size) hEL (by decide) RR53.1 (vs := [(.int (109 : Int32)), (.int (101 : Int32)), (.int (116 : Int32)), (.int (104 : Int32)), (.int (111 : Int32)), (.int (100 : Int32)), (.int (95 : Int32)), (.int (110 : Int32)), (.int (111 : Int32)), (.int (116 : Int32)), (.int (95 : Int32)), (.int (97 : Int32)), (.int (108 : Int32)), (.int (108 : Int32)), (.int (111 : Int32)), (.int (119 : Int32)), (.int (101 : Int32)), (.int (100 : Int32))]) (z := (18 : Int32)) (by decide +kernel) (by decide) (by decide) (g := (mkF m 637 #[vi p0, vi p1, vi p2, vi p3, vi x1, vi x2, vi x3, vi (p3 &&& (3 : Int32)), vr a22, vr a23, vr u53, vr a22, vr g53] [])) rfl (hb hby at_637) (n := 72) (by decide) (by decide) (by decide) (by decide)
      refine Fin.go st57 ?_
      have O57 := O53.ext E57
      have RR57 := RR53.trans RC57
      show Fin _ _ _ _ _ _ _ _ T57 (mkF m 639 #[vi p0, vi p1, vi p2, vi p3, vi x1, vi x2, vi x3, vi (p3 &&& (3 : Int32)), vr a22, vr a23, vr u53, vr a22, vr g53] [(.ref a57)])
      have Z57 : SX Z h57 a57 0 tCode h57.size := sxRaw A57 C57 F57 (bxLit V57 rfl (by decide) rfl (by decide))
      refine .go (fun _ k => XS.aload X57.here hx rfl (hb hby at_639) rfl rfl k) ?_
      obtain ⟨v58, T58, L58, X58, q58, st58⟩ := callVt X57 hx hZ57 (y := (⟨"com/example/spool/spool/http/HttpError", "code", "()Ljava/lang/String;"⟩ : MethodName)) hown57 (hw _ w_231) (hw _ w_232) (hw _ w_234) (hw _ w_233) (hw _ w_47) (hw _ w_235) (by decide) (W := 1) (rmGc l Z a0 hw n0 h57 O57 u53 ck53 (U153.ext E57)) e57 (U53.ext E57) (by decide) (by decide) (by decide) (by decide) (g := (mkF m 641 #[vi p0, vi p1, vi p2, vi p3, vi x1, vi x2, vi x3, vi (p3 &&& (3 : Int32)), vr a22, vr a23, vr u53, vr a22, vr g53] [(.ref u53), (.ref a57)])) rfl (by rw [hml]; rfl) (argsL := []) (rest := [(.ref a57)]) (lenOf pd_ocLjava_lang_String_ rfl) rfl (wk rfl rfl) (hb hby at_641)
      obtain ⟨rfl, e58, rfl⟩ := q58
      have N58 := Fr.app N56 (Fr.nil n0)
      refine Fin.go st58 ?_
      show Fin _ _ _ _ _ _ _ _ T58 (mkF m 644 #[vi p0, vi p1, vi p2, vi p3, vi x1, vi x2, vi x3, vi (p3 &&& (3 : Int32)), vr a22, vr a23, vr u53, vr a22, vr g53] [(.ref ck53), (.ref a57)])
      obtain ⟨v59, T59, L59, X59, q59, st59⟩ := callVt X58 hx hZ57 (y := (⟨"java/lang/String", "equals", "(Ljava/lang/Object;)Z"⟩ : MethodName)) hown57 (hw _ w_236) (hw _ w_237) (hw _ w_239) (hw _ w_238) (hw _ w_3) (hw _ w_240) (by decide) (W := 0) (rmEqX l Z a0 hw n0 h57 O57 a57 ck53 0 0 tCode h57.size T53.heap.size (by decide) Z57 (Zc53.ext E57) cs S_cs hcs) e58 Z57.exa (by decide) (by decide) (by decide) (by decide) (g := (mkF m 644 #[vi p0, vi p1, vi p2, vi p3, vi x1, vi x2, vi x3, vi (p3 &&& (3 : Int32)), vr a22, vr a23, vr u53, vr a22, vr g53] [(.ref ck53), (.ref a57)])) rfl (by rw [hml]; rfl) (argsL := [(.ref ck53)]) (rest := []) (lenOf pd_oLjava_lang_Object_cZ rfl) rfl (wk rfl rfl) (hb hby at_644)
      obtain ⟨rfl, e59, rfl⟩ := q59
      have N59 := Fr.app N58 (Fr.nil n0)
      refine Fin.go st59 ?_
      show Fin _ _ _ _ _ _ _ _ T59 (mkF m 647 #[vi p0, vi p1, vi p2, vi p3, vi x1, vi x2, vi x3, vi (p3 &&& (3 : Int32)), vr a22, vr a23, vr u53, vr a22, vr g53] [(.int (1 : Int32))])
      refine .go (fun _ k => XS.ifNo X59.here hx rfl (hb hby at_647) rfl (XT.i0_eq_f (by decide)) k) ?_
      show Fin _ _ _ _ _ _ _ _ T59 (mkF m 650 #[vi p0, vi p1, vi p2, vi p3, vi x1, vi x2, vi x3, vi (p3 &&& (3 : Int32)), vr a22, vr a23, vr u53, vr a22, vr g53] [])
      refine .go (fun _ k => XS.aload X59.here hx rfl (hb hby at_650) rfl rfl k) ?_
      refine .go (fun _ k => XS.ifnullNo X59.here hx rfl (hb hby at_652) rfl k) ?_
      refine .go (fun _ k => XS.aload X59.here hx rfl (hb hby at_655) rfl rfl k) ?_
      refine .go (fun _ k => XS.aload X59.here hx rfl (hb hby at_657) rfl rfl k) ?_
      show Fin _ _ _ _ _ _ _ _ T59 (mkF m 659 #[vi p0, vi p1, vi p2, vi p3, vi x1, vi x2, vi x3, vi (p3 &&& (3 : Int32)), vr a22, vr a23, vr u53, vr a22, vr g53] [(.ref a22), (.ref a22)])
      obtain ⟨v60, T60, L60, X60, q60, st60⟩ := callVt X59 hx hZ57 (y := (⟨"java/lang/String", "equals", "(Ljava/lang/Object;)Z"⟩ : MethodName)) hown57 (hw _ w_236) (hw _ w_237) (hw _ w_239) (hw _ w_238) (hw _ w_3) (hw _ w_240) (by decide) (W := 0) (rmEqX l Z a0 hw n0 h57 O57 a22 a22 co22 co22 [x1] T22.heap.size T22.heap.size (show 1 ≤ 64 from by decide) ((Z52_a22.keep Kq53 all0).ext E57) ((Z52_a22.keep Kq53 all0).ext E57) cs S_cs hcs) e59 ((Z52_a22.keep Kq53 all0).ext E57).exa (by decide) (by decide) (by decide) (by decide) (g := (mkF m 659 #[vi p0, vi p1, vi p2, vi p3, vi x1, vi x2, vi x3, vi (p3 &&& (3 : Int32)), vr a22, vr a23, vr u53, vr a22, vr g53] [(.ref a22), (.ref a22)])) rfl (by rw [hml]; rfl) (argsL := [(.ref a22)]) (rest := []) (lenOf pd_oLjava_lang_Object_cZ rfl) rfl (wk rfl rfl) (hb hby at_659)
      obtain ⟨rfl, e60, rfl⟩ := q60
      have N60 := Fr.app N59 (Fr.nil n0)
      refine Fin.go st60 ?_
      show Fin _ _ _ _ _ _ _ _ T60 (mkF m 662 #[vi p0, vi p1, vi p2, vi p3, vi x1, vi x2, vi x3, vi (p3 &&& (3 : Int32)), vr a22, vr a23, vr u53, vr a22, vr g53] [(.int (1 : Int32))])
      refine .go (fun _ k => XS.ifNo X60.here hx rfl (hb hby at_662) rfl (XT.i0_eq_f (by decide)) k) ?_
      show Fin _ _ _ _ _ _ _ _ T60 (mkF m 665 #[vi p0, vi p1, vi p2, vi p3, vi x1, vi x2, vi x3, vi (p3 &&& (3 : Int32)), vr a22, vr a23, vr u53, vr a22, vr g53] [])
      refine .go (fun _ k => XS.aload X60.here hx rfl (hb hby at_665) rfl rfl k) ?_
      refine .go (fun _ k => XS.ifnullNo X60.here hx rfl (hb hby at_667) rfl k) ?_
      refine .go (fun _ k => XS.aload X60.here hx rfl (hb hby at_670) rfl rfl k) ?_
      refine .go (fun _ k => XS.aload X60.here hx rfl (hb hby at_672) rfl rfl k) ?_
      show Fin _ _ _ _ _ _ _ _ T60 (mkF m 674 #[vi p0, vi p1, vi p2, vi p3, vi x1, vi x2, vi x3, vi (p3 &&& (3 : Int32)), vr a22, vr a23, vr u53, vr a22, vr g53] [(.ref g53), (.ref a23)])
      obtain ⟨v61, T61, L61, X61, q61, st61⟩ := callVt X60 hx hZ57 (y := (⟨"java/lang/String", "equals", "(Ljava/lang/Object;)Z"⟩ : MethodName)) hown57 (hw _ w_236) (hw _ w_237) (hw _ w_239) (hw _ w_238) (hw _ w_3) (hw _ w_240) (by decide) (W := 0) (rmEqX l Z a0 hw n0 h57 O57 a23 g53 co52 cg53 ((tPre ++ [x1]) ++ tPost) T52.heap.size T53.heap.size (show 25 ≤ 64 from by decide) ((Z52.keep Kq53 all0).ext E57) (Zg53.ext E57) cs S_cs hcs) e60 ((Z52.keep Kq53 all0).ext E57).exa (by decide) (by decide) (by decide) (by decide) (g := (mkF m 674 #[vi p0, vi p1, vi p2, vi p3, vi x1, vi x2, vi x3, vi (p3 &&& (3 : Int32)), vr a22, vr a23, vr u53, vr a22, vr g53] [(.ref g53), (.ref a23)])) rfl (by rw [hml]; rfl) (argsL := [(.ref g53)]) (rest := []) (lenOf pd_oLjava_lang_Object_cZ rfl) rfl (wk rfl rfl) (hb hby at_674)
      obtain ⟨rfl, e61, rfl⟩ := q61
      have N61 := Fr.app N60 (Fr.nil n0)
      refine Fin.go st61 ?_
      show Fin _ _ _ _ _ _ _ _ T61 (mkF m 677 #[vi p0, vi p1, vi p2, vi p3, vi x1, vi x2, vi x3, vi (p3 &&& (3 : Int32)), vr a22, vr a23, vr u53, vr a22, vr g53] [(.int (1 : Int32))])
      refine .go (fun _ k => XS.ifNo X61.here hx rfl (hb hby at_677) rfl (XT.i0_eq_f (by decide)) k) ?_
      show Fin _ _ _ _ _ _ _ _ T61 (mkF m 680 #[vi p0, vi p1, vi p2, vi p3, vi x1, vi x2, vi x3, vi (p3 &&& (3 : Int32)), vr a22, vr a23, vr u53, vr a22, vr g53] [])
      refine .go (fun _ k => XS.iconst X61.here hx rfl (hb hby at_680) k) ?_
      refine .go (fun _ k => XS.goto X61.here hx rfl (pc0 := 681) (pc' := 685) rfl (hb hby at_681) (by decide) (by decide) k) ?_
      exact Fin.leaveH X61 hS57 hj57 hZ57 hEL e61 RR57 hlk (v := some (.int (nar .boolean (1 : Int32)))) (nvS hret) (by decide) (by decide) ⟨rfl, N61⟩ (fun fs hr => retN X61 hx (t := .boolean) hret (by simp) (hb hby at_685) hr)
    · refine .go (fun _ k => XS.icmpYes X0.here hx rfl (pc0 := 45) (pc' := 215) rfl (hb hby at_45) rfl (XT.ii_ne_t c45) (by decide) (by decide) k) ?_
      show Fin _ _ _ _ _ _ _ _ s₁ (mkF m 215 #[vi p0, vi p1, vi p2, vi p3, vi x1, vi x2, vi x3, vi (p3 &&& (3 : Int32)), .unset, .unset, .unset, .unset, .unset] [])
      refine .go (fun _ k => XS.iload X0.here hx rfl (hb hby at_215) rfl k) ?_
      refine .go (fun _ k => XS.iconst X0.here hx rfl (hb hby at_217) k) ?_
      by_cases c218 : (p3 &&& (3 : Int32)) = (2 : Int32)
      · refine .go (fun _ k => XS.icmpNo X0.here hx rfl (hb hby at_218) rfl (XT.ii_ne_f c218) k) ?_
        show Fin _ _ _ _ _ _ _ _ s₁ (mkF m 221 #[vi p0, vi p1, vi p2, vi p3, vi x1, vi x2, vi x3, vi (p3 &&& (3 : Int32)), .unset, .unset, .unset, .unset, .unset] [])
        obtain ⟨T62, h62, X62, e62, E62, A62, D62, U62, st62⟩ := newO X0 hx hZ hown (hw _ w_27) (hw _ w_11) (hw _ w_3) e0 (g := (mkF m 221 #[vi p0, vi p1, vi p2, vi p3, vi x1, vi x2, vi x3, vi (p3 &&& (3 : Int32)), .unset, .unset, .unset, .unset, .unset] [])) rfl (hb hby at_221) (by decide) (by decide)
        obtain ⟨a62, g62⟩ : ∃ z, z = h0.size := ⟨_, rfl⟩
        rw [← g62] at A62 D62 U62 st62
        refine Fin.go st62 ?_
        have O62 := O.ext E62
        have hk62 := Nat.le_trans (Nat.zero_le _) E62.1
        have RR62 := RR0.trans (CHr.ext E62 RR0.1)
        have n62 : n0 ≤ a62 := by have := O.2.1; have := O.1; omega
        have sf62 := (Safe.new (Z := Z) (EL := EL) (vm := s.vm) (Nat.le_of_eq g62.symm)).ext E62 RR0.1
        have F62_value : Fld Z h62 a62 "java/lang/String" "value" "[B" .null := D62 (Or.inr (hw _ w_24)) (ty := (.array .byte)) (by decide)
        have F62_coder : Fld Z h62 a62 "java/lang/String" "coder" "B" (.int (0 : Int32)) := D62 (Or.inr (hw _ w_26)) (ty := .byte) (by decide)
        show Fin _ _ _ _ _ _ _ _ T62 (mkF m 224 #[vi p0, vi p1, vi p2, vi p3, vi x1, vi x2, vi x3, vi (p3 &&& (3 : Int32)), .unset, .unset, .unset, .unset, .unset] [(.ref a62)])
        refine .go (fun _ k => XS.dup X62.here hx rfl (hb hby at_224) rfl rfl k) ?_
        refine .go (fun _ k => XS.iconst X62.here hx rfl (hb hby at_225) k) ?_
        obtain ⟨T63, h63, k63, X63, e63, E63, A63, st63⟩ := newP X62 hx hZ (aty := .char) (hw _ w_28) e62 (g := (mkF m 226 #[vi p0, vi p1, vi p2, vi p3, vi x1, vi x2, vi x3, vi (p3 &&& (3 : Int32)), .unset, .unset, .unset, .unset, .unset] [(.int (2 : Int32)), (.ref a62), (.ref a62)])) rfl (hb hby at_226) rfl (by decide : ¬ ((2 : Int32) < (0 : Int32))) (cap := 2) (by decide) (by decide) (by decide) (by decide)
        obtain ⟨a63, g63⟩ : ∃ z, z = h62.size := ⟨_, rfl⟩
        rw [← g63] at A63 st63
        refine Fin.go st63 ?_
        have O63 := O62.ext E63
        have hk63 := Nat.le_trans hk62 E63.1
        have RR63 := RR62.trans (CHr.ext E63 RR62.1)
        have n63 : n0 ≤ a63 := by have := O62.2.1; have := O62.1; omega
        have V63 : Arv Z h63 a63 k63 .char (2 : Int32) [(.int (0 : Int32)), (.int (0 : Int32))] (.int (0 : Int32)) := (Arv.new A63 (by decide)).pad (pad_rep [] (.int (0 : Int32)) 2)
        show Fin _ _ _ _ _ _ _ _ T63 (mkF m 228 #[vi p0, vi p1, vi p2, vi p3, vi x1, vi x2, vi x3, vi (p3 &&& (3 : Int32)), .unset, .unset, .unset, .unset, .unset] [(.ref a63), (.ref a62), (.ref a62)])
        refine .go (fun _ k => XS.dup X63.here hx rfl (hb hby at_228) rfl rfl k) ?_
        refine .go (fun _ k => XS.iconst X63.here hx rfl (hb hby at_229) k) ?_
        refine .go (fun _ k => XS.iload X63.here hx rfl (hb hby at_230) rfl k) ?_
        obtain ⟨cz64, B64, q64, S64, M64, H64, G64⟩ := id V63
        obtain ⟨T64, h64, X64, e64, W64, st64⟩ := stC X63 hx hZ e63 B64 (j := (0 : Int32)) (inb_of S64 ⟨(by decide : ¬ ((0 : Int32) < (0 : Int32))), (by decide : (0 : Int32) < (2 : Int32))⟩) (g := (mkF m 232 #[vi p0, vi p1, vi p2, vi p3, vi x1, vi x2, vi x3, vi (p3 &&& (3 : Int32)), .unset, .unset, .unset, .unset, .unset] [(.int x1), (.int (0 : Int32)), (.ref a63), (.ref a63), (.ref a62), (.ref a62)])) rfl rfl (hb hby at_232)
        refine Fin.go st64 ?_
        have V64 : Arv Z h64 a63 k63 .char (2 : Int32) [(.int x1), (.int (0 : Int32))] (.int (0 : Int32)) := (by have q : Arv Z h64 a63 k63 .char (2 : Int32) [(.int (nar .char x1)), (.int (0 : Int32))] (.int (0 : Int32)) := (Arv.set B64 q64 S64 M64 H64 G64 (fits_nar_char _) W64 0 rfl (Nat.le_of_ble_eq_true rfl)); rwa [narC _ hx1] at q)
        have N64 := Fr.snoc X64 N0 n63
        have O64 := O63.wr W64 n63
        have hk64 := Nat.le_trans hk63 (Keep.of_wr W64).1
        have RR64 := RR63.trans (CHr.wr W64 (Safe.arv hZ.alike V63 (by decide)) RR63.1)
        have sf64_a62 := (Safe.wr W64 (Safe.arv hZ.alike V63 (by decide)) RR63.1 (sf62.ext E63 RR62.1))
        have F64_a62_value := ((F62_value.ext E63).other W64 (Or.inl (Nat.ne_of_lt (Nat.lt_of_lt_of_eq A62.lt g63.symm))))
        have F64_a62_coder := ((F62_coder.ext E63).other W64 (Or.inl (Nat.ne_of_lt (Nat.lt_of_lt_of_eq A62.lt g63.symm))))
        show Fin _ _ _ _ _ _ _ _ T64 (mkF m 233 #[vi p0, vi p1, vi p2, vi p3, vi x1, vi x2, vi x3, vi (p3 &&& (3 : Int32)), .unset, .unset, .unset, .unset, .unset] [(.ref a63), (.ref a62), (.ref a62)])
        refine .go (fun _ k => XS.dup X64.here hx rfl (hb hby at_233) rfl rfl k) ?_
        refine .go (fun _ k => XS.iconst X64.here hx rfl (hb hby at_234) k) ?_
        refine .go (fun _ k => XS.iload X64.here hx rfl (hb hby at_235) rfl k) ?_
        obtain ⟨cz65, B65, q65, S65, M65, H65, G65⟩ := id V64
        obtain ⟨T65, h65, X65, e65, W65, st65⟩ := stC X64 hx hZ e64 B65 (j := (1 : Int32)) (inb_of S65 ⟨(by decide : ¬ ((1 : Int32) < (0 : Int32))), (by decide : (1 : Int32) < (2 : Int32))⟩) (g := (mkF m 237 #[vi p0, vi p1, vi p2, vi p3, vi x1, vi x2, vi x3, vi (p3 &&& (3 : Int32)), .unset, .unset, .unset, .unset, .unset] [(.int x2), (.int (1 : Int32)), (.ref a63), (.ref a63), (.ref a62), (.ref a62)])) rfl rfl (hb hby at_237)
        refine Fin.go st65 ?_
        have V65 : Arv Z h65 a63 k63 .char (2 : Int32) [(.int x1), (.int x2)] (.int (0 : Int32)) := (by have q : Arv Z h65 a63 k63 .char (2 : Int32) [(.int x1), (.int (nar .char x2))] (.int (0 : Int32)) := (Arv.set B65 q65 S65 M65 H65 G65 (fits_nar_char _) W65 1 rfl (Nat.le_of_ble_eq_true rfl)); rwa [narC _ hx2] at q)
        have N65 := Fr.snoc X65 N64 n63
        have O65 := O64.wr W65 n63
        have hk65 := Nat.le_trans hk64 (Keep.of_wr W65).1
        have RR65 := RR64.trans (CHr.wr W65 (Safe.arv hZ.alike V64 (by decide)) RR64.1)
        have sf65_a62 := (Safe.wr W65 (Safe.arv hZ.alike V64 (by decide)) RR64.1 sf64_a62)
        have F65_a62_value := (F64_a62_value.other W65 (Or.inl (Nat.ne_of_lt (Nat.lt_of_lt_of_eq A62.lt g63.symm))))
        have F65_a62_coder := (F64_a62_coder.other W65 (Or.inl (Nat.ne_of_lt (Nat.lt_of_lt_of_eq A62.lt g63.symm))))
        show Fin _ _ _ _ _ _ _ _ T65 (mkF m 238 #[vi p0, vi p1, vi p2, vi p3, vi x1, vi x2, vi x3, vi (p3 &&& (3 : Int32)), .unset, .unset, .unset, .unset, .unset] [(.ref a63), (.ref a62), (.ref a62)])
        obtain ⟨v66, T66, L66, X66, q66, st66⟩ := callCt X65 hx hZ (y := (⟨"java/lang/String", "<init>", "([C)V"⟩ : MethodName)) rfl hown (hw _ w_29) (hw _ w_30) (hw _ w_3) (hw _ w_31) (by decide) (W := 1) (rmIG l Z a0 hw n0 h65 O65 a62 a63 k63 [x1, x2] (show 0 < 2 from by decide) (show 2 ≤ 64 from by decide) (chG (chS hx1 (chS hx2 ch0))) cs S_cs hcs V65 (((A62.ext E63).wr W64).wr W65) F65_a62_coder F65_a62_value S_as S_hb S_lb n62 (Ne.symm (Nat.ne_of_lt (Nat.lt_of_lt_of_eq A62.lt g63.symm)))) e65 (by decide) (by decide) (by decide) (by decide) (g := (mkF m 238 #[vi p0, vi p1, vi p2, vi p3, vi x1, vi x2, vi x3, vi (p3 &&& (3 : Int32)), .unset, .unset, .unset, .unset, .unset] [(.ref a63), (.ref a62), (.ref a62)])) rfl (by rw [hml]; rfl) (a := a62) (argsL := [(.ref a63)]) (rest := [(.ref a62)]) (lenOf pd_oACcV rfl) rfl (wk rfl rfl) (hb hby at_238)
        obtain ⟨rfl, Nq66, Kq66, A66, co66, d66, kd66, C66, F66, V66, zd66⟩ := q66
        have N66 := Fr.app N65 Nq66
        have O66 := O65.keep Kq66 (allS n62 all0)
        have RR66 := RR65.trans (CHr.keep Kq66 (sfS sf65_a62 sf0) RR65.1)
        have hk66 := Nat.le_trans hk65 Kq66.1
        refine Fin.go st66 ?_
        show Fin _ _ _ _ _ _ _ _ T66 (mkF m 241 #[vi p0, vi p1, vi p2, vi p3, vi x1, vi x2, vi x3, vi (p3 &&& (3 : Int32)), .unset, .unset, .unset, .unset, .unset] [(.ref a62)])
        have Z66 : SX Z T66.heap a62 co66 [x1, x2] T66.heap.size := sxRaw A66 C66 F66 V66
        refine .go (fun _ k => XS.astore X66.here hx rfl (hb hby at_241) rfl rfl (l' := #[vi p0, vi p1, vi p2, vi p3, vi x1, vi x2, vi x3, vi (p3 &&& (3 : Int32)), vr a62, .unset, .unset, .unset, .unset]) rfl k) ?_
        obtain ⟨T67, h67, X67, e67, E67, A67, D67, U67, st67⟩ := newO X66 hx hZ hown (hw _ w_27) (hw _ w_11) (hw _ w_3) (rfl : T66.heap = T66.heap) (g := (mkF m 243 #[vi p0, vi p1, vi p2, vi p3, vi x1, vi x2, vi x3, vi (p3 &&& (3 : Int32)), vr a62, .unset, .unset, .unset, .unset] [])) rfl (hb hby at_243) (by decide) (by decide)
        obtain ⟨a67, g67⟩ : ∃ z, z = T66.heap.size := ⟨_, rfl⟩
        rw [← g67] at A67 D67 U67 st67
        refine Fin.go st67 ?_
        have O67 := O66.ext E67
        have hk67 := Nat.le_trans hk66 E67.1
        have RR67 := RR66.trans (CHr.ext E67 RR66.1)
        have n67 : n0 ≤ a67 := by have := O66.2.1; have := O66.1; omega
        have sf67 := (Safe.new (Z := Z) (EL := EL) (vm := s.vm) (Nat.le_of_eq g67.symm)).ext E67 RR66.1
        have F67_value : Fld Z h67 a67 "java/lang/String" "value" "[B" .null := D67 (Or.inr (hw _ w_24)) (ty := (.array .byte)) (by decide)
        have F67_coder : Fld Z h67 a67 "java/lang/String" "coder" "B" (.int (0 : Int32)) := D67 (Or.inr (hw _ w_26)) (ty := .byte) (by decide)
        show Fin _ _ _ _ _ _ _ _ T67 (mkF m 246 #[vi p0, vi p1, vi p2, vi p3, vi x1, vi x2, vi x3, vi (p3 &&& (3 : Int32)), vr a62, .unset, .unset, .unset, .unset] [(.ref a67)])
        refine .go (fun _ k => XS.dup X67.here hx rfl (hb hby at_246) rfl rfl k) ?_
        refine .go (fun _ k => XS.bipush X67.here hx rfl (hb hby at_247) k) ?_
        obtain ⟨T68, h68, k68, X68, e68, E68, A68, st68⟩ := newP X67 hx hZ (aty := .char) (hw _ w_28) e67 (g := (mkF m 249 #[vi p0, vi p1, vi p2, vi p3, vi x1, vi x2, vi x3, vi (p3 &&& (3 : Int32)), vr a62, .unset, .unset, .unset, .unset] [(.int (26 : Int32)), (.ref a67), (.ref a67)])) rfl (hb hby at_249) rfl (by decide : ¬ ((26 : Int32) < (0 : Int32))) (cap := 26) (by decide) (by decide) (by decide) (by decide)
        obtain ⟨a68, g68⟩ : ∃ z, z = h67.size := ⟨_, rfl⟩
        rw [← g68] at A68 st68
        refine Fin.go st68 ?_
        have O68 := O67.ext E68
        have hk68 := Nat.le_trans hk67 E68.1
        have RR68 := RR67.trans (CHr.ext E68 RR67.1)
        have n68 : n0 ≤ a68 := by have := O67.2.1; have := O67.1; omega
        have V68 : Arv Z h68 a68 k68 .char (26 : Int32) [(.int (0 : Int32)), (.int (0 : Int32)), (.int (0 : Int32)), (.int (0 : Int32)), (.int (0 : Int32)), (.int (0 : Int32)), (.int (0 : Int32)), (.int (0 : Int32)), (.int (0 : Int32)), (.int (0 : Int32)), (.int (0 : Int32)), (.int (0 : Int32)), (.int (0 : Int32)), (.int (0 : Int32)), (.int (0 : Int32)), (.int (0 : Int32)), (.int (0 : Int32)), (.int (0 : Int32)), (.int (0 : Int32)), (.int (0 : Int32)), (.int (0 : Int32)), (.int (0 : Int32)), (.int (0 : Int32)), (.int (0 : Int32)), (.int (0 : Int32)), (.int (0 : Int32))] (.int (0 : Int32)) := (Arv.new A68 (by decide)).pad (pad_rep [] (.int (0 : Int32)) 26)
        show Fin _ _ _ _ _ _ _ _ T68 (mkF m 251 #[vi p0, vi p1, vi p2, vi p3, vi x1, vi x2, vi x3, vi (p3 &&& (3 : Int32)), vr a62, .unset, .unset, .unset, .unset] [(.ref a68), (.ref a67), (.ref a67)])
        have V69 := fillI (L := (tE [x1, x2])) V68 rfl
        have KK69 := Keep.refl h68 ([a68] : List Addr)
        refine .go (fun _ k => XS.dup X68.here hx rfl (hb hby at_251) rfl rfl k) ?_
        refine .go (fun _ k => XS.iconst X68.here hx rfl (hb hby at_252) k) ?_
        refine .go (fun _ k => XS.bipush X68.here hx rfl (hb hby at_253) k) ?_
        obtain ⟨cz70, B70, q70, S70, M70, H70, G70⟩ := id V69
        obtain ⟨T70, h70, X70, e70, W70, st70⟩ := stC X68 hx hZ e68 B70 (j := (0 : Int32)) (inb_of S70 ⟨(by decide), (by decide)⟩) (g := (mkF m 255 #[vi p0, vi p1, vi p2, vi p3, vi x1, vi x2, vi x3, vi (p3 &&& (3 : Int32)), vr a62, .unset, .unset, .unset, .unset] [(.int (84 : Int32)), (.int (0 : Int32)), (.ref a68), (.ref a68), (.ref a67), (.ref a67)])) rfl rfl (hb hby at_255)
        refine Fin.go st70 ?_
        have V70 := fillV (L := (tE [x1, x2])) (i := 0) (Arv.set B70 q70 S70 M70 H70 G70 (fits_nar_char _) W70 0 rfl (fillLt (show 0 < 26 from by decide))) (show nar .char (84 : Int32) = (84 : Int32) from by decide) (show 0 < 26 from by decide)
        have KK70 := KK69.wr W70 (Or.inl (List.mem_of_getElem? (i := 0) rfl))
        have N70 := Fr.snoc X70 N66 n68
        have O70 := O68.wr W70 n68
        have hk70 := Nat.le_trans hk68 (Keep.of_wr W70).1
        have RR70 := RR68.trans (CHr.wr W70 (Safe.arv hZ.alike V69 (by decide)) RR68.1)
        show Fin _ _ _ _ _ _ _ _ T70 (mkF m 256 #[vi p0, vi p1, vi p2, vi p3, vi x1, vi x2, vi x3, vi (p3 &&& (3 : Int32)), vr a62, .unset, .unset, .unset, .unset] [(.ref a68), (.ref a67), (.ref a67)])
        refine .go (fun _ k => XS.dup X70.here hx rfl (hb hby at_256) rfl rfl k) ?_
        refine .go (fun _ k => XS.iconst X70.here hx rfl (hb hby at_257) k) ?_
        refine .go (fun _ k => XS.bipush X70.here hx rfl (hb hby at_258) k) ?_
        obtain ⟨cz71, B71, q71, S71, M71, H71, G71⟩ := id V70
        obtain ⟨T71, h71, X71, e71, W71, st71⟩ := stC X70 hx hZ e70 B71 (j := (1 : Int32)) (inb_of S71 ⟨(by decide), (by decide)⟩) (g := (mkF m 260 #[vi p0, vi p1, vi p2, vi p3, vi x1, vi x2, vi x3, vi (p3 &&& (3 : Int32)), vr a62, .unset, .unset, .unset, .unset] [(.int (104 : Int32)), (.int (1 : Int32)), (.ref a68), (.ref a68), (.ref a67), (.ref a67)])) rfl rfl (hb hby at_260)
        refine Fin.go st71 ?_
        have V71 := fillV (L := (tE [x1, x2])) (i := 1) (Arv.set B71 q71 S71 M71 H71 G71 (fits_nar_char _) W71 1 rfl (fillLt (show 1 < 26 from by decide))) (show nar .char (104 : Int32) = (104 : Int32) from by decide) (show 1 < 26 from by decide)
        have KK71 := KK70.wr W71 (Or.inl (List.mem_of_getElem? (i := 0) rfl))
        have N71 := Fr.snoc X71 N70 n68
        have O71 := O70.wr W71 n68
        have hk71 := Nat.le_trans hk70 (Keep.of_wr W71).1
        have RR71 := RR70.trans (CHr.wr W71 (Safe.arv hZ.alike V70 (by decide)) RR70.1)
        show Fin _ _ _ _ _ _ _ _ T71 (mkF m 261 #[vi p0, vi p1, vi p2, vi p3, vi x1, vi x2, vi x3, vi (p3 &&& (3 : Int32)), vr a62, .unset, .unset, .unset, .unset] [(.ref a68), (.ref a67), (.ref a67)])
        refine .go (fun _ k => XS.dup X71.here hx rfl (hb hby at_261) rfl rfl k) ?_
        refine .go (fun _ k => XS.iconst X71.here hx rfl (hb hby at_262) k) ?_
        refine .go (fun _ k => XS.bipush X71.here hx rfl (hb hby at_263) k) ?_
        obtain ⟨cz72, B72, q72, S72, M72, H72, G72⟩ := id V71
        obtain ⟨T72, h72, X72, e72, W72, st72⟩ := stC X71 hx hZ e71 B72 (j := (2 : Int32)) (inb_of S72 ⟨(by decide), (by decide)⟩) (g := (mkF m 265 #[vi p0, vi p1, vi p2, vi p3, vi x1, vi x2, vi x3, vi (p3 &&& (3 : Int32)), vr a62, .unset, .unset, .unset, .unset] [(.int (105 : Int32)), (.int (2 : Int32)), (.ref a68), (.ref a68), (.ref a67), (.ref a67)])) rfl rfl (hb hby at_265)
        refine Fin.go st72 ?_
        have V72 := fillV (L := (tE [x1, x2])) (i := 2) (Arv.set B72 q72 S72 M72 H72 G72 (fits_nar_char _) W72 2 rfl (fillLt (show 2 < 26 from by decide))) (show nar .char (105 : Int32) = (105 : Int32) from by decide) (show 2 < 26 from by decide)
        have KK72 := KK71.wr W72 (Or.inl (List.mem_of_getElem? (i := 0) rfl))
        have N72 := Fr.snoc X72 N71 n68
        have O72 := O71.wr W72 n68
        have hk72 := Nat.le_trans hk71 (Keep.of_wr W72).1
        have RR72 := RR71.trans (CHr.wr W72 (Safe.arv hZ.alike V71 (by decide)) RR71.1)
        show Fin _ _ _ _ _ _ _ _ T72 (mkF m 266 #[vi p0, vi p1, vi p2, vi p3, vi x1, vi x2, vi x3, vi (p3 &&& (3 : Int32)), vr a62, .unset, .unset, .unset, .unset] [(.ref a68), (.ref a67), (.ref a67)])
        refine .go (fun _ k => XS.dup X72.here hx rfl (hb hby at_266) rfl rfl k) ?_
        refine .go (fun _ k => XS.iconst X72.here hx rfl (hb hby at_267) k) ?_
        refine .go (fun _ k => XS.bipush X72.here hx rfl (hb hby at_268) k) ?_
        obtain ⟨cz73, B73, q73, S73, M73, H73, G73⟩ := id V72
        obtain ⟨T73, h73, X73, e73, W73, st73⟩ := stC X72 hx hZ e72 B73 (j := (3 : Int32)) (inb_of S73 ⟨(by decide), (by decide)⟩) (g := (mkF m 270 #[vi p0, vi p1, vi p2, vi p3, vi x1, vi x2, vi x3, vi (p3 &&& (3 : Int32)), vr a62, .unset, .unset, .unset, .unset] [(.int (115 : Int32)), (.int (3 : Int32)), (.ref a68), (.ref a68), (.ref a67), (.ref a67)])) rfl rfl (hb hby at_270)
        refine Fin.go st73 ?_
        have V73 := fillV (L := (tE [x1, x2])) (i := 3) (Arv.set B73 q73 S73 M73 H73 G73 (fits_nar_char _) W73 3 rfl (fillLt (show 3 < 26 from by decide))) (show nar .char (115 : Int32) = (115 : Int32) from by decide) (show 3 < 26 from by decide)
        have KK73 := KK72.wr W73 (Or.inl (List.mem_of_getElem? (i := 0) rfl))
        have N73 := Fr.snoc X73 N72 n68
        have O73 := O72.wr W73 n68
        have hk73 := Nat.le_trans hk72 (Keep.of_wr W73).1
        have RR73 := RR72.trans (CHr.wr W73 (Safe.arv hZ.alike V72 (by decide)) RR72.1)
        show Fin _ _ _ _ _ _ _ _ T73 (mkF m 271 #[vi p0, vi p1, vi p2, vi p3, vi x1, vi x2, vi x3, vi (p3 &&& (3 : Int32)), vr a62, .unset, .unset, .unset, .unset] [(.ref a68), (.ref a67), (.ref a67)])
        refine .go (fun _ k => XS.dup X73.here hx rfl (hb hby at_271) rfl rfl k) ?_
        refine .go (fun _ k => XS.iconst X73.here hx rfl (hb hby at_272) k) ?_
        refine .go (fun _ k => XS.bipush X73.here hx rfl (hb hby at_273) k) ?_
        obtain ⟨cz74, B74, q74, S74, M74, H74, G74⟩ := id V73
        obtain ⟨T74, h74, X74, e74, W74, st74⟩ := stC X73 hx hZ e73 B74 (j := (4 : Int32)) (inb_of S74 ⟨(by decide), (by decide)⟩) (g := (mkF m 275 #[vi p0, vi p1, vi p2, vi p3, vi x1, vi x2, vi x3, vi (p3 &&& (3 : Int32)), vr a62, .unset, .unset, .unset, .unset] [(.int (32 : Int32)), (.int (4 : Int32)), (.ref a68), (.ref a68), (.ref a67), (.ref a67)])) rfl rfl (hb hby at_275)
        refine Fin.go st74 ?_
        have V74 := fillV (L := (tE [x1, x2])) (i := 4) (Arv.set B74 q74 S74 M74 H74 G74 (fits_nar_char _) W74 4 rfl (fillLt (show 4 < 26 from by decide))) (show nar .char (32 : Int32) = (32 : Int32) from by decide) (show 4 < 26 from by decide)
        have KK74 := KK73.wr W74 (Or.inl (List.mem_of_getElem? (i := 0) rfl))
        have N74 := Fr.snoc X74 N73 n68
        have O74 := O73.wr W74 n68
        have hk74 := Nat.le_trans hk73 (Keep.of_wr W74).1
        have RR74 := RR73.trans (CHr.wr W74 (Safe.arv hZ.alike V73 (by decide)) RR73.1)
        show Fin _ _ _ _ _ _ _ _ T74 (mkF m 276 #[vi p0, vi p1, vi p2, vi p3, vi x1, vi x2, vi x3, vi (p3 &&& (3 : Int32)), vr a62, .unset, .unset, .unset, .unset] [(.ref a68), (.ref a67), (.ref a67)])
        refine .go (fun _ k => XS.dup X74.here hx rfl (hb hby at_276) rfl rfl k) ?_
        refine .go (fun _ k => XS.iconst X74.here hx rfl (hb hby at_277) k) ?_
        refine .go (fun _ k => XS.bipush X74.here hx rfl (hb hby at_278) k) ?_
        obtain ⟨cz75, B75, q75, S75, M75, H75, G75⟩ := id V74
        obtain ⟨T75, h75, X75, e75, W75, st75⟩ := stC X74 hx hZ e74 B75 (j := (5 : Int32)) (inb_of S75 ⟨(by decide), (by decide)⟩) (g := (mkF m 280 #[vi p0, vi p1, vi p2, vi p3, vi x1, vi x2, vi x3, vi (p3 &&& (3 : Int32)), vr a62, .unset, .unset, .unset, .unset] [(.int (112 : Int32)), (.int (5 : Int32)), (.ref a68), (.ref a68), (.ref a67), (.ref a67)])) rfl rfl (hb hby at_280)
        refine Fin.go st75 ?_
        have V75 := fillV (L := (tE [x1, x2])) (i := 5) (Arv.set B75 q75 S75 M75 H75 G75 (fits_nar_char _) W75 5 rfl (fillLt (show 5 < 26 from by decide))) (show nar .char (112 : Int32) = (112 : Int32) from by decide) (show 5 < 26 from by decide)
        have KK75 := KK74.wr W75 (Or.inl (List.mem_of_getElem? (i := 0) rfl))
        have N75 := Fr.snoc X75 N74 n68
        have O75 := O74.wr W75 n68
        have hk75 := Nat.le_trans hk74 (Keep.of_wr W75).1
        have RR75 := RR74.trans (CHr.wr W75 (Safe.arv hZ.alike V74 (by decide)) RR74.1)
        show Fin _ _ _ _ _ _ _ _ T75 (mkF m 281 #[vi p0, vi p1, vi p2, vi p3, vi x1, vi x2, vi x3, vi (p3 &&& (3 : Int32)), vr a62, .unset, .unset, .unset, .unset] [(.ref a68), (.ref a67), (.ref a67)])
        refine .go (fun _ k => XS.dup X75.here hx rfl (hb hby at_281) rfl rfl k) ?_
        refine .go (fun _ k => XS.bipush X75.here hx rfl (hb hby at_282) k) ?_
        refine .go (fun _ k => XS.bipush X75.here hx rfl (hb hby at_284) k) ?_
        obtain ⟨cz76, B76, q76, S76, M76, H76, G76⟩ := id V75
        obtain ⟨T76, h76, X76, e76, W76, st76⟩ := stC X75 hx hZ e75 B76 (j := (6 : Int32)) (inb_of S76 ⟨(by decide), (by decide)⟩) (g := (mkF m 286 #[vi p0, vi p1, vi p2, vi p3, vi x1, vi x2, vi x3, vi (p3 &&& (3 : Int32)), vr a62, .unset, .unset, .unset, .unset] [(.int (97 : Int32)), (.int (6 : Int32)), (.ref a68), (.ref a68), (.ref a67), (.ref a67)])) rfl rfl (hb hby at_286)
        refine Fin.go st76 ?_
        have V76 := fillV (L := (tE [x1, x2])) (i := 6) (Arv.set B76 q76 S76 M76 H76 G76 (fits_nar_char _) W76 6 rfl (fillLt (show 6 < 26 from by decide))) (show nar .char (97 : Int32) = (97 : Int32) from by decide) (show 6 < 26 from by decide)
        have KK76 := KK75.wr W76 (Or.inl (List.mem_of_getElem? (i := 0) rfl))
        have N76 := Fr.snoc X76 N75 n68
        have O76 := O75.wr W76 n68
        have hk76 := Nat.le_trans hk75 (Keep.of_wr W76).1
        have RR76 := RR75.trans (CHr.wr W76 (Safe.arv hZ.alike V75 (by decide)) RR75.1)
        show Fin _ _ _ _ _ _ _ _ T76 (mkF m 287 #[vi p0, vi p1, vi p2, vi p3, vi x1, vi x2, vi x3, vi (p3 &&& (3 : Int32)), vr a62, .unset, .unset, .unset, .unset] [(.ref a68), (.ref a67), (.ref a67)])
        refine .go (fun _ k => XS.dup X76.here hx rfl (hb hby at_287) rfl rfl k) ?_
        refine .go (fun _ k => XS.bipush X76.here hx rfl (hb hby at_288) k) ?_
        refine .go (fun _ k => XS.bipush X76.here hx rfl (hb hby at_290) k) ?_
        obtain ⟨cz77, B77, q77, S77, M77, H77, G77⟩ := id V76
        obtain ⟨T77, h77, X77, e77, W77, st77⟩ := stC X76 hx hZ e76 B77 (j := (7 : Int32)) (inb_of S77 ⟨(by decide), (by decide)⟩) (g := (mkF m 292 #[vi p0, vi p1, vi p2, vi p3, vi x1, vi x2, vi x3, vi (p3 &&& (3 : Int32)), vr a62, .unset, .unset, .unset, .unset] [(.int (116 : Int32)), (.int (7 : Int32)), (.ref a68), (.ref a68), (.ref a67), (.ref a67)])) rfl rfl (hb hby at_292)
        refine Fin.go st77 ?_
        have V77 := fillV (L := (tE [x1, x2])) (i := 7) (Arv.set B77 q77 S77 M77 H77 G77 (fits_nar_char _) W77 7 rfl (fillLt (show 7 < 26 from by decide))) (show nar .char (116 : Int32) = (116 : Int32) from by decide) (show 7 < 26 from by decide)
        have KK77 := KK76.wr W77 (Or.inl (List.mem_of_getElem? (i := 0) rfl))
        have N77 := Fr.snoc X77 N76 n68
        have O77 := O76.wr W77 n68
        have hk77 := Nat.le_trans hk76 (Keep.of_wr W77).1
        have RR77 := RR76.trans (CHr.wr W77 (Safe.arv hZ.alike V76 (by decide)) RR76.1)
        show Fin _ _ _ _ _ _ _ _ T77 (mkF m 293 #[vi p0, vi p1, vi p2, vi p3, vi x1, vi x2, vi x3, vi (p3 &&& (3 : Int32)), vr a62, .unset, .unset, .unset, .unset] [(.ref a68), (.ref a67), (.ref a67)])
        refine .go (fun _ k => XS.dup X77.here hx rfl (hb hby at_293) rfl rfl k) ?_
        refine .go (fun _ k => XS.bipush X77.here hx rfl (hb hby at_294) k) ?_
        refine .go (fun _ k => XS.bipush X77.here hx rfl (hb hby at_296) k) ?_
        obtain ⟨cz78, B78, q78, S78, M78, H78, G78⟩ := id V77
        obtain ⟨T78, h78, X78, e78, W78, st78⟩ := stC X77 hx hZ e77 B78 (j := (8 : Int32)) (inb_of S78 ⟨(by decide), (by decide)⟩) (g := (mkF m 298 #[vi p0, vi p1, vi p2, vi p3, vi x1, vi x2, vi x3, vi (p3 &&& (3 : Int32)), vr a62, .unset, .unset, .unset, .unset] [(.int (104 : Int32)), (.int (8 : Int32)), (.ref a68), (.ref a68), (.ref a67), (.ref a67)])) rfl rfl (hb hby at_298)
        refine Fin.go st78 ?_
        have V78 := fillV (L := (tE [x1, x2])) (i := 8) (Arv.set B78 q78 S78 M78 H78 G78 (fits_nar_char _) W78 8 rfl (fillLt (show 8 < 26 from by decide))) (show nar .char (104 : Int32) = (104 : Int32) from by decide) (show 8 < 26 from by decide)
        have KK78 := KK77.wr W78 (Or.inl (List.mem_of_getElem? (i := 0) rfl))
        have N78 := Fr.snoc X78 N77 n68
        have O78 := O77.wr W78 n68
        have hk78 := Nat.le_trans hk77 (Keep.of_wr W78).1
        have RR78 := RR77.trans (CHr.wr W78 (Safe.arv hZ.alike V77 (by decide)) RR77.1)
        show Fin _ _ _ _ _ _ _ _ T78 (mkF m 299 #[vi p0, vi p1, vi p2, vi p3, vi x1, vi x2, vi x3, vi (p3 &&& (3 : Int32)), vr a62, .unset, .unset, .unset, .unset] [(.ref a68), (.ref a67), (.ref a67)])
        refine .go (fun _ k => XS.dup X78.here hx rfl (hb hby at_299) rfl rfl k) ?_
        refine .go (fun _ k => XS.bipush X78.here hx rfl (hb hby at_300) k) ?_
        refine .go (fun _ k => XS.bipush X78.here hx rfl (hb hby at_302) k) ?_
        obtain ⟨cz79, B79, q79, S79, M79, H79, G79⟩ := id V78
        obtain ⟨T79, h79, X79, e79, W79, st79⟩ := stC X78 hx hZ e78 B79 (j := (9 : Int32)) (inb_of S79 ⟨(by decide), (by decide)⟩) (g := (mkF m 304 #[vi p0, vi p1, vi p2, vi p3, vi x1, vi x2, vi x3, vi (p3 &&& (3 : Int32)), vr a62, .unset, .unset, .unset, .unset] [(.int (32 : Int32)), (.int (9 : Int32)), (.ref a68), (.ref a68), (.ref a67), (.ref a67)])) rfl rfl (hb hby at_304)
        refine Fin.go st79 ?_
        have V79 := fillV (L := (tE [x1, x2])) (i := 9) (Arv.set B79 q79 S79 M79 H79 G79 (fits_nar_char _) W79 9 rfl (fillLt (show 9 < 26 from by decide))) (show nar .char (32 : Int32) = (32 : Int32) from by decide) (show 9 < 26 from by decide)
        have KK79 := KK78.wr W79 (Or.inl (List.mem_of_getElem? (i := 0) rfl))
        have N79 := Fr.snoc X79 N78 n68
        have O79 := O78.wr W79 n68
        have hk79 := Nat.le_trans hk78 (Keep.of_wr W79).1
        have RR79 := RR78.trans (CHr.wr W79 (Safe.arv hZ.alike V78 (by decide)) RR78.1)
        show Fin _ _ _ _ _ _ _ _ T79 (mkF m 305 #[vi p0, vi p1, vi p2, vi p3, vi x1, vi x2, vi x3, vi (p3 &&& (3 : Int32)), vr a62, .unset, .unset, .unset, .unset] [(.ref a68), (.ref a67), (.ref a67)])
        refine .go (fun _ k => XS.dup X79.here hx rfl (hb hby at_305) rfl rfl k) ?_
        refine .go (fun _ k => XS.bipush X79.here hx rfl (hb hby at_306) k) ?_
        refine .go (fun _ k => XS.bipush X79.here hx rfl (hb hby at_308) k) ?_
        obtain ⟨cz80, B80, q80, S80, M80, H80, G80⟩ := id V79
        obtain ⟨T80, h80, X80, e80, W80, st80⟩ := stC X79 hx hZ e79 B80 (j := (10 : Int32)) (inb_of S80 ⟨(by decide), (by decide)⟩) (g := (mkF m 310 #[vi p0, vi p1, vi p2, vi p3, vi x1, vi x2, vi x3, vi (p3 &&& (3 : Int32)), vr a62, .unset, .unset, .unset, .unset] [(.int (97 : Int32)), (.int (10 : Int32)), (.ref a68), (.ref a68), (.ref a67), (.ref a67)])) rfl rfl (hb hby at_310)
        refine Fin.go st80 ?_
        have V80 := fillV (L := (tE [x1, x2])) (i := 10) (Arv.set B80 q80 S80 M80 H80 G80 (fits_nar_char _) W80 10 rfl (fillLt (show 10 < 26 from by decide))) (show nar .char (97 : Int32) = (97 : Int32) from by decide) (show 10 < 26 from by decide)
        have KK80 := KK79.wr W80 (Or.inl (List.mem_of_getElem? (i := 0) rfl))
        have N80 := Fr.snoc X80 N79 n68
        have O80 := O79.wr W80 n68
        have hk80 := Nat.le_trans hk79 (Keep.of_wr W80).1
        have RR80 := RR79.trans (CHr.wr W80 (Safe.arv hZ.alike V79 (by decide)) RR79.1)
        show Fin _ _ _ _ _ _ _ _ T80 (mkF m 311 #[vi p0, vi p1, vi p2, vi p3, vi x1, vi x2, vi x3, vi (p3 &&& (3 : Int32)), vr a62, .unset, .unset, .unset, .unset] [(.ref a68), (.ref a67), (.ref a67)])
        refine .go (fun _ k => XS.dup X80.here hx rfl (hb hby at_311) rfl rfl k) ?_
        refine .go (fun _ k => XS.bipush X80.here hx rfl (hb hby at_312) k) ?_
        refine .go (fun _ k => XS.bipush X80.here hx rfl (hb hby at_314) k) ?_
        obtain ⟨cz81, B81, q81, S81, M81, H81, G81⟩ := id V80
        obtain ⟨T81, h81, X81, e81, W81, st81⟩ := stC X80 hx hZ e80 B81 (j := (11 : Int32)) (inb_of S81 ⟨(by decide), (by decide)⟩) (g := (mkF m 316 #[vi p0, vi p1, vi p2, vi p3, vi x1, vi x2, vi x3, vi (p3 &&& (3 : Int32)), vr a62, .unset, .unset, .unset, .unset] [(.int (110 : Int32)), (.int (11 : Int32)), (.ref a68), (.ref a68), (.ref a67), (.ref a67)])) rfl rfl (hb hby at_316)
        refine Fin.go st81 ?_
        have V81 := fillV (L := (tE [x1, x2])) (i := 11) (Arv.set B81 q81 S81 M81 H81 G81 (fits_nar_char _) W81 11 rfl (fillLt (show 11 < 26 from by decide))) (show nar .char (110 : Int32) = (110 : Int32) from by decide) (show 11 < 26 from by decide)
        have KK81 := KK80.wr W81 (Or.inl (List.mem_of_getElem? (i := 0) rfl))
        have N81 := Fr.snoc X81 N80 n68
        have O81 := O80.wr W81 n68
        have hk81 := Nat.le_trans hk80 (Keep.of_wr W81).1
        have RR81 := RR80.trans (CHr.wr W81 (Safe.arv hZ.alike V80 (by decide)) RR80.1)
        show Fin _ _ _ _ _ _ _ _ T81 (mkF m 317 #[vi p0, vi p1, vi p2, vi p3, vi x1, vi x2, vi x3, vi (p3 &&& (3 : Int32)), vr a62, .unset, .unset, .unset, .unset] [(.ref a68), (.ref a67), (.ref a67)])
        refine .go (fun _ k => XS.dup X81.here hx rfl (hb hby at_317) rfl rfl k) ?_
        refine .go (fun _ k => XS.bipush X81.here hx rfl (hb hby at_318) k) ?_
        refine .go (fun _ k => XS.bipush X81.here hx rfl (hb hby at_320) k) ?_
        obtain ⟨cz82, B82, q82, S82, M82, H82, G82⟩ := id V81
        obtain ⟨T82, h82, X82, e82, W82, st82⟩ := stC X81 hx hZ e81 B82 (j := (12 : Int32)) (inb_of S82 ⟨(by decide), (by decide)⟩) (g := (mkF m 322 #[vi p0, vi p1, vi p2, vi p3, vi x1, vi x2, vi x3, vi (p3 &&& (3 : Int32)), vr a62, .unset, .unset, .unset, .unset] [(.int (115 : Int32)), (.int (12 : Int32)), (.ref a68), (.ref a68), (.ref a67), (.ref a67)])) rfl rfl (hb hby at_322)
        refine Fin.go st82 ?_
        have V82 := fillV (L := (tE [x1, x2])) (i := 12) (Arv.set B82 q82 S82 M82 H82 G82 (fits_nar_char _) W82 12 rfl (fillLt (show 12 < 26 from by decide))) (show nar .char (115 : Int32) = (115 : Int32) from by decide) (show 12 < 26 from by decide)
        have KK82 := KK81.wr W82 (Or.inl (List.mem_of_getElem? (i := 0) rfl))
        have N82 := Fr.snoc X82 N81 n68
        have O82 := O81.wr W82 n68
        have hk82 := Nat.le_trans hk81 (Keep.of_wr W82).1
        have RR82 := RR81.trans (CHr.wr W82 (Safe.arv hZ.alike V81 (by decide)) RR81.1)
        show Fin _ _ _ _ _ _ _ _ T82 (mkF m 323 #[vi p0, vi p1, vi p2, vi p3, vi x1, vi x2, vi x3, vi (p3 &&& (3 : Int32)), vr a62, .unset, .unset, .unset, .unset] [(.ref a68), (.ref a67), (.ref a67)])
        refine .go (fun _ k => XS.dup X82.here hx rfl (hb hby at_323) rfl rfl k) ?_
        refine .go (fun _ k => XS.bipush X82.here hx rfl (hb hby at_324) k) ?_
        refine .go (fun _ k => XS.bipush X82.here hx rfl (hb hby at_326) k) ?_
        obtain ⟨cz83, B83, q83, S83, M83, H83, G83⟩ := id V82
        obtain ⟨T83, h83, X83, e83, W83, st83⟩ := stC X82 hx hZ e82 B83 (j := (13 : Int32)) (inb_of S83 ⟨(by decide), (by decide)⟩) (g := (mkF m 328 #[vi p0, vi p1, vi p2, vi p3, vi x1, vi x2, vi x3, vi (p3 &&& (3 : Int32)), vr a62, .unset, .unset, .unset, .unset] [(.int (119 : Int32)), (.int (13 : Int32)), (.ref a68), (.ref a68), (.ref a67), (.ref a67)])) rfl rfl (hb hby at_328)
        refine Fin.go st83 ?_
        have V83 := fillV (L := (tE [x1, x2])) (i := 13) (Arv.set B83 q83 S83 M83 H83 G83 (fits_nar_char _) W83 13 rfl (fillLt (show 13 < 26 from by decide))) (show nar .char (119 : Int32) = (119 : Int32) from by decide) (show 13 < 26 from by decide)
        have KK83 := KK82.wr W83 (Or.inl (List.mem_of_getElem? (i := 0) rfl))
        have N83 := Fr.snoc X83 N82 n68
        have O83 := O82.wr W83 n68
        have hk83 := Nat.le_trans hk82 (Keep.of_wr W83).1
        have RR83 := RR82.trans (CHr.wr W83 (Safe.arv hZ.alike V82 (by decide)) RR82.1)
        show Fin _ _ _ _ _ _ _ _ T83 (mkF m 329 #[vi p0, vi p1, vi p2, vi p3, vi x1, vi x2, vi x3, vi (p3 &&& (3 : Int32)), vr a62, .unset, .unset, .unset, .unset] [(.ref a68), (.ref a67), (.ref a67)])
        refine .go (fun _ k => XS.dup X83.here hx rfl (hb hby at_329) rfl rfl k) ?_
        refine .go (fun _ k => XS.bipush X83.here hx rfl (hb hby at_330) k) ?_
        refine .go (fun _ k => XS.bipush X83.here hx rfl (hb hby at_332) k) ?_
        obtain ⟨cz84, B84, q84, S84, M84, H84, G84⟩ := id V83
        obtain ⟨T84, h84, X84, e84, W84, st84⟩ := stC X83 hx hZ e83 B84 (j := (14 : Int32)) (inb_of S84 ⟨(by decide), (by decide)⟩) (g := (mkF m 334 #[vi p0, vi p1, vi p2, vi p3, vi x1, vi x2, vi x3, vi (p3 &&& (3 : Int32)), vr a62, .unset, .unset, .unset, .unset] [(.int (101 : Int32)), (.int (14 : Int32)), (.ref a68), (.ref a68), (.ref a67), (.ref a67)])) rfl rfl (hb hby at_334)
        refine Fin.go st84 ?_
        have V84 := fillV (L := (tE [x1, x2])) (i := 14) (Arv.set B84 q84 S84 M84 H84 G84 (fits_nar_char _) W84 14 rfl (fillLt (show 14 < 26 from by decide))) (show nar .char (101 : Int32) = (101 : Int32) from by decide) (show 14 < 26 from by decide)
        have KK84 := KK83.wr W84 (Or.inl (List.mem_of_getElem? (i := 0) rfl))
        have N84 := Fr.snoc X84 N83 n68
        have O84 := O83.wr W84 n68
        have hk84 := Nat.le_trans hk83 (Keep.of_wr W84).1
        have RR84 := RR83.trans (CHr.wr W84 (Safe.arv hZ.alike V83 (by decide)) RR83.1)
        show Fin _ _ _ _ _ _ _ _ T84 (mkF m 335 #[vi p0, vi p1, vi p2, vi p3, vi x1, vi x2, vi x3, vi (p3 &&& (3 : Int32)), vr a62, .unset, .unset, .unset, .unset] [(.ref a68), (.ref a67), (.ref a67)])
        refine .go (fun _ k => XS.dup X84.here hx rfl (hb hby at_335) rfl rfl k) ?_
        refine .go (fun _ k => XS.bipush X84.here hx rfl (hb hby at_336) k) ?_
        refine .go (fun _ k => XS.bipush X84.here hx rfl (hb hby at_338) k) ?_
        obtain ⟨cz85, B85, q85, S85, M85, H85, G85⟩ := id V84
        obtain ⟨T85, h85, X85, e85, W85, st85⟩ := stC X84 hx hZ e84 B85 (j := (15 : Int32)) (inb_of S85 ⟨(by decide), (by decide)⟩) (g := (mkF m 340 #[vi p0, vi p1, vi p2, vi p3, vi x1, vi x2, vi x3, vi (p3 &&& (3 : Int32)), vr a62, .unset, .unset, .unset, .unset] [(.int (114 : Int32)), (.int (15 : Int32)), (.ref a68), (.ref a68), (.ref a67), (.ref a67)])) rfl rfl (hb hby at_340)
        refine Fin.go st85 ?_
        have V85 := fillV (L := (tE [x1, x2])) (i := 15) (Arv.set B85 q85 S85 M85 H85 G85 (fits_nar_char _) W85 15 rfl (fillLt (show 15 < 26 from by decide))) (show nar .char (114 : Int32) = (114 : Int32) from by decide) (show 15 < 26 from by decide)
        have KK85 := KK84.wr W85 (Or.inl (List.mem_of_getElem? (i := 0) rfl))
        have N85 := Fr.snoc X85 N84 n68
        have O85 := O84.wr W85 n68
        have hk85 := Nat.le_trans hk84 (Keep.of_wr W85).1
        have RR85 := RR84.trans (CHr.wr W85 (Safe.arv hZ.alike V84 (by decide)) RR84.1)
        show Fin _ _ _ _ _ _ _ _ T85 (mkF m 341 #[vi p0, vi p1, vi p2, vi p3, vi x1, vi x2, vi x3, vi (p3 &&& (3 : Int32)), vr a62, .unset, .unset, .unset, .unset] [(.ref a68), (.ref a67), (.ref a67)])
        refine .go (fun _ k => XS.dup X85.here hx rfl (hb hby at_341) rfl rfl k) ?_
        refine .go (fun _ k => XS.bipush X85.here hx rfl (hb hby at_342) k) ?_
        refine .go (fun _ k => XS.bipush X85.here hx rfl (hb hby at_344) k) ?_
        obtain ⟨cz86, B86, q86, S86, M86, H86, G86⟩ := id V85
        obtain ⟨T86, h86, X86, e86, W86, st86⟩ := stC X85 hx hZ e85 B86 (j := (16 : Int32)) (inb_of S86 ⟨(by decide), (by decide)⟩) (g := (mkF m 346 #[vi p0, vi p1, vi p2, vi p3, vi x1, vi x2, vi x3, vi (p3 &&& (3 : Int32)), vr a62, .unset, .unset, .unset, .unset] [(.int (115 : Int32)), (.int (16 : Int32)), (.ref a68), (.ref a68), (.ref a67), (.ref a67)])) rfl rfl (hb hby at_346)
        refine Fin.go st86 ?_
        have V86 := fillV (L := (tE [x1, x2])) (i := 16) (Arv.set B86 q86 S86 M86 H86 G86 (fits_nar_char _) W86 16 rfl (fillLt (show 16 < 26 from by decide))) (show nar .char (115 : Int32) = (115 : Int32) from by decide) (show 16 < 26 from by decide)
        have KK86 := KK85.wr W86 (Or.inl (List.mem_of_getElem? (i := 0) rfl))
        have N86 := Fr.snoc X86 N85 n68
        have O86 := O85.wr W86 n68
        have hk86 := Nat.le_trans hk85 (Keep.of_wr W86).1
        have RR86 := RR85.trans (CHr.wr W86 (Safe.arv hZ.alike V85 (by decide)) RR85.1)
        show Fin _ _ _ _ _ _ _ _ T86 (mkF m 347 #[vi p0, vi p1, vi p2, vi p3, vi x1, vi x2, vi x3, vi (p3 &&& (3 : Int32)), vr a62, .unset, .unset, .unset, .unset] [(.ref a68), (.ref a67), (.ref a67)])
        refine .go (fun _ k => XS.dup X86.here hx rfl (hb hby at_347) rfl rfl k) ?_
        refine .go (fun _ k => XS.bipush X86.here hx rfl (hb hby at_348) k) ?_
        refine .go (fun _ k => XS.bipush X86.here hx rfl (hb hby at_350) k) ?_
        obtain ⟨cz87, B87, q87, S87, M87, H87, G87⟩ := id V86
        obtain ⟨T87, h87, X87, e87, W87, st87⟩ := stC X86 hx hZ e86 B87 (j := (17 : Int32)) (inb_of S87 ⟨(by decide), (by decide)⟩) (g := (mkF m 352 #[vi p0, vi p1, vi p2, vi p3, vi x1, vi x2, vi x3, vi (p3 &&& (3 : Int32)), vr a62, .unset, .unset, .unset, .unset] [(.int (32 : Int32)), (.int (17 : Int32)), (.ref a68), (.ref a68), (.ref a67), (.ref a67)])) rfl rfl (hb hby at_352)
        refine Fin.go st87 ?_
        have V87 := fillV (L := (tE [x1, x2])) (i := 17) (Arv.set B87 q87 S87 M87 H87 G87 (fits_nar_char _) W87 17 rfl (fillLt (show 17 < 26 from by decide))) (show nar .char (32 : Int32) = (32 : Int32) from by decide) (show 17 < 26 from by decide)
        have KK87 := KK86.wr W87 (Or.inl (List.mem_of_getElem? (i := 0) rfl))
        have N87 := Fr.snoc X87 N86 n68
        have O87 := O86.wr W87 n68
        have hk87 := Nat.le_trans hk86 (Keep.of_wr W87).1
        have RR87 := RR86.trans (CHr.wr W87 (Safe.arv hZ.alike V86 (by decide)) RR86.1)
        show Fin _ _ _ _ _ _ _ _ T87 (mkF m 353 #[vi p0, vi p1, vi p2, vi p3, vi x1, vi x2, vi x3, vi (p3 &&& (3 : Int32)), vr a62, .unset, .unset, .unset, .unset] [(.ref a68), (.ref a67), (.ref a67)])
        refine .go (fun _ k => XS.dup X87.here hx rfl (hb hby at_353) rfl rfl k) ?_
        refine .go (fun _ k => XS.bipush X87.here hx rfl (hb hby at_354) k) ?_
        refine .go (fun _ k => XS.iload X87.here hx rfl (hb hby at_356) rfl k) ?_
        obtain ⟨cz88, B88, q88, S88, M88, H88, G88⟩ := id V87
        obtain ⟨T88, h88, X88, e88, W88, st88⟩ := stC X87 hx hZ e87 B88 (j := (18 : Int32)) (inb_of S88 ⟨(by decide), (by decide)⟩) (g := (mkF m 358 #[vi p0, vi p1, vi p2, vi p3, vi x1, vi x2, vi x3, vi (p3 &&& (3 : Int32)), vr a62, .unset, .unset, .unset, .unset] [(.int x1), (.int (18 : Int32)), (.ref a68), (.ref a68), (.ref a67), (.ref a67)])) rfl rfl (hb hby at_358)
        refine Fin.go st88 ?_
        have V88 := fillV (L := (tE [x1, x2])) (i := 18) (Arv.set B88 q88 S88 M88 H88 G88 (fits_nar_char _) W88 18 rfl (fillLt (show 18 < 26 from by decide))) (narC _ hx1) (show 18 < 26 from by decide)
        have KK88 := KK87.wr W88 (Or.inl (List.mem_of_getElem? (i := 0) rfl))
        have N88 := Fr.snoc X88 N87 n68
        have O88 := O87.wr W88 n68
        have hk88 := Nat.le_trans hk87 (Keep.of_wr W88).1
        have RR88 := RR87.trans (CHr.wr W88 (Safe.arv hZ.alike V87 (by decide)) RR87.1)
        show Fin _ _ _ _ _ _ _ _ T88 (mkF m 359 #[vi p0, vi p1, vi p2, vi p3, vi x1, vi x2, vi x3, vi (p3 &&& (3 : Int32)), vr a62, .unset, .unset, .unset, .unset] [(.ref a68), (.ref a67), (.ref a67)])
        refine .go (fun _ k => XS.dup X88.here hx rfl (hb hby at_359) rfl rfl k) ?_
        refine .go (fun _ k => XS.bipush X88.here hx rfl (hb hby at_360) k) ?_
        refine .go (fun _ k => XS.iload X88.here hx rfl (hb hby at_362) rfl k) ?_
        obtain ⟨cz89, B89, q89, S89, M89, H89, G89⟩ := id V88
        obtain ⟨T89, h89, X89, e89, W89, st89⟩ := stC X88 hx hZ e88 B89 (j := (19 : Int32)) (inb_of S89 ⟨(by decide), (by decide)⟩) (g := (mkF m 364 #[vi p0, vi p1, vi p2, vi p3, vi x1, vi x2, vi x3, vi (p3 &&& (3 : Int32)), vr a62, .unset, .unset, .unset, .unset] [(.int x2), (.int (19 : Int32)), (.ref a68), (.ref a68), (.ref a67), (.ref a67)])) rfl rfl (hb hby at_364)
        refine Fin.go st89 ?_
        have V89 := fillV (L := (tE [x1, x2])) (i := 19) (Arv.set B89 q89 S89 M89 H89 G89 (fits_nar_char _) W89 19 rfl (fillLt (show 19 < 26 from by decide))) (narC _ hx2) (show 19 < 26 from by decide)
        have KK89 := KK88.wr W89 (Or.inl (List.mem_of_getElem? (i := 0) rfl))
        have N89 := Fr.snoc X89 N88 n68
        have O89 := O88.wr W89 n68
        have hk89 := Nat.le_trans hk88 (Keep.of_wr W89).1
        have RR89 := RR88.trans (CHr.wr W89 (Safe.arv hZ.alike V88 (by decide)) RR88.1)
        show Fin _ _ _ _ _ _ _ _ T89 (mkF m 365 #[vi p0, vi p1, vi p2, vi p3, vi x1, vi x2, vi x3, vi (p3 &&& (3 : Int32)), vr a62, .unset, .unset, .unset, .unset] [(.ref a68), (.ref a67), (.ref a67)])
        refine .go (fun _ k => XS.dup X89.here hx rfl (hb hby at_365) rfl rfl k) ?_
        refine .go (fun _ k => XS.bipush X89.here hx rfl (hb hby at_366) k) ?_
        refine .go (fun _ k => XS.bipush X89.here hx rfl (hb hby at_368) k) ?_
        obtain ⟨cz90, B90, q90, S90, M90, H90, G90⟩ := id V89
        obtain ⟨T90, h90, X90, e90, W90, st90⟩ := stC X89 hx hZ e89 B90 (j := (20 : Int32)) (inb_of S90 ⟨(by decide), (by decide)⟩) (g := (mkF m 370 #[vi p0, vi p1, vi p2, vi p3, vi x1, vi x2, vi x3, vi (p3 &&& (3 : Int32)), vr a62, .unset, .unset, .unset, .unset] [(.int (32 : Int32)), (.int (20 : Int32)), (.ref a68), (.ref a68), (.ref a67), (.ref a67)])) rfl rfl (hb hby at_370)
        refine Fin.go st90 ?_
        have V90 := fillV (L := (tE [x1, x2])) (i := 20) (Arv.set B90 q90 S90 M90 H90 G90 (fits_nar_char _) W90 20 rfl (fillLt (show 20 < 26 from by decide))) (show nar .char (32 : Int32) = (32 : Int32) from by decide) (show 20 < 26 from by decide)
        have KK90 := KK89.wr W90 (Or.inl (List.mem_of_getElem? (i := 0) rfl))
        have N90 := Fr.snoc X90 N89 n68
        have O90 := O89.wr W90 n68
        have hk90 := Nat.le_trans hk89 (Keep.of_wr W90).1
        have RR90 := RR89.trans (CHr.wr W90 (Safe.arv hZ.alike V89 (by decide)) RR89.1)
        show Fin _ _ _ _ _ _ _ _ T90 (mkF m 371 #[vi p0, vi p1, vi p2, vi p3, vi x1, vi x2, vi x3, vi (p3 &&& (3 : Int32)), vr a62, .unset, .unset, .unset, .unset] [(.ref a68), (.ref a67), (.ref a67)])
        refine .go (fun _ k => XS.dup X90.here hx rfl (hb hby at_371) rfl rfl k) ?_
        refine .go (fun _ k => XS.bipush X90.here hx rfl (hb hby at_372) k) ?_
        refine .go (fun _ k => XS.bipush X90.here hx rfl (hb hby at_374) k) ?_
        obtain ⟨cz91, B91, q91, S91, M91, H91, G91⟩ := id V90
        obtain ⟨T91, h91, X91, e91, W91, st91⟩ := stC X90 hx hZ e90 B91 (j := (21 : Int32)) (inb_of S91 ⟨(by decide), (by decide)⟩) (g := (mkF m 376 #[vi p0, vi p1, vi p2, vi p3, vi x1, vi x2, vi x3, vi (p3 &&& (3 : Int32)), vr a62, .unset, .unset, .unset, .unset] [(.int (111 : Int32)), (.int (21 : Int32)), (.ref a68), (.ref a68), (.ref a67), (.ref a67)])) rfl rfl (hb hby at_376)
        refine Fin.go st91 ?_
        have V91 := fillV (L := (tE [x1, x2])) (i := 21) (Arv.set B91 q91 S91 M91 H91 G91 (fits_nar_char _) W91 21 rfl (fillLt (show 21 < 26 from by decide))) (show nar .char (111 : Int32) = (111 : Int32) from by decide) (show 21 < 26 from by decide)
        have KK91 := KK90.wr W91 (Or.inl (List.mem_of_getElem? (i := 0) rfl))
        have N91 := Fr.snoc X91 N90 n68
        have O91 := O90.wr W91 n68
        have hk91 := Nat.le_trans hk90 (Keep.of_wr W91).1
        have RR91 := RR90.trans (CHr.wr W91 (Safe.arv hZ.alike V90 (by decide)) RR90.1)
        show Fin _ _ _ _ _ _ _ _ T91 (mkF m 377 #[vi p0, vi p1, vi p2, vi p3, vi x1, vi x2, vi x3, vi (p3 &&& (3 : Int32)), vr a62, .unset, .unset, .unset, .unset] [(.ref a68), (.ref a67), (.ref a67)])
        refine .go (fun _ k => XS.dup X91.here hx rfl (hb hby at_377) rfl rfl k) ?_
        refine .go (fun _ k => XS.bipush X91.here hx rfl (hb hby at_378) k) ?_
        refine .go (fun _ k => XS.bipush X91.here hx rfl (hb hby at_380) k) ?_
        obtain ⟨cz92, B92, q92, S92, M92, H92, G92⟩ := id V91
        obtain ⟨T92, h92, X92, e92, W92, st92⟩ := stC X91 hx hZ e91 B92 (j := (22 : Int32)) (inb_of S92 ⟨(by decide), (by decide)⟩) (g := (mkF m 382 #[vi p0, vi p1, vi p2, vi p3, vi x1, vi x2, vi x3, vi (p3 &&& (3 : Int32)), vr a62, .unset, .unset, .unset, .unset] [(.int (110 : Int32)), (.int (22 : Int32)), (.ref a68), (.ref a68), (.ref a67), (.ref a67)])) rfl rfl (hb hby at_382)
        refine Fin.go st92 ?_
        have V92 := fillV (L := (tE [x1, x2])) (i := 22) (Arv.set B92 q92 S92 M92 H92 G92 (fits_nar_char _) W92 22 rfl (fillLt (show 22 < 26 from by decide))) (show nar .char (110 : Int32) = (110 : Int32) from by decide) (show 22 < 26 from by decide)
        have KK92 := KK91.wr W92 (Or.inl (List.mem_of_getElem? (i := 0) rfl))
        have N92 := Fr.snoc X92 N91 n68
        have O92 := O91.wr W92 n68
        have hk92 := Nat.le_trans hk91 (Keep.of_wr W92).1
        have RR92 := RR91.trans (CHr.wr W92 (Safe.arv hZ.alike V91 (by decide)) RR91.1)
        show Fin _ _ _ _ _ _ _ _ T92 (mkF m 383 #[vi p0, vi p1, vi p2, vi p3, vi x1, vi x2, vi x3, vi (p3 &&& (3 : Int32)), vr a62, .unset, .unset, .unset, .unset] [(.ref a68), (.ref a67), (.ref a67)])
        refine .go (fun _ k => XS.dup X92.here hx rfl (hb hby at_383) rfl rfl k) ?_
        refine .go (fun _ k => XS.bipush X92.here hx rfl (hb hby at_384) k) ?_
        refine .go (fun _ k => XS.bipush X92.here hx rfl (hb hby at_386) k) ?_
        obtain ⟨cz93, B93, q93, S93, M93, H93, G93⟩ := id V92
        obtain ⟨T93, h93, X93, e93, W93, st93⟩ := stC X92 hx hZ e92 B93 (j := (23 : Int32)) (inb_of S93 ⟨(by decide), (by decide)⟩) (g := (mkF m 388 #[vi p0, vi p1, vi p2, vi p3, vi x1, vi x2, vi x3, vi (p3 &&& (3 : Int32)), vr a62, .unset, .unset, .unset, .unset] [(.int (108 : Int32)), (.int (23 : Int32)), (.ref a68), (.ref a68), (.ref a67), (.ref a67)])) rfl rfl (hb hby at_388)
        refine Fin.go st93 ?_
        have V93 := fillV (L := (tE [x1, x2])) (i := 23) (Arv.set B93 q93 S93 M93 H93 G93 (fits_nar_char _) W93 23 rfl (fillLt (show 23 < 26 from by decide))) (show nar .char (108 : Int32) = (108 : Int32) from by decide) (show 23 < 26 from by decide)
        have KK93 := KK92.wr W93 (Or.inl (List.mem_of_getElem? (i := 0) rfl))
        have N93 := Fr.snoc X93 N92 n68
        have O93 := O92.wr W93 n68
        have hk93 := Nat.le_trans hk92 (Keep.of_wr W93).1
        have RR93 := RR92.trans (CHr.wr W93 (Safe.arv hZ.alike V92 (by decide)) RR92.1)
        show Fin _ _ _ _ _ _ _ _ T93 (mkF m 389 #[vi p0, vi p1, vi p2, vi p3, vi x1, vi x2, vi x3, vi (p3 &&& (3 : Int32)), vr a62, .unset, .unset, .unset, .unset] [(.ref a68), (.ref a67), (.ref a67)])
        refine .go (fun _ k => XS.dup X93.here hx rfl (hb hby at_389) rfl rfl k) ?_
        refine .go (fun _ k => XS.bipush X93.here hx rfl (hb hby at_390) k) ?_
        refine .go (fun _ k => XS.bipush X93.here hx rfl (hb hby at_392) k) ?_
        obtain ⟨cz94, B94, q94, S94, M94, H94, G94⟩ := id V93
        obtain ⟨T94, h94, X94, e94, W94, st94⟩ := stC X93 hx hZ e93 B94 (j := (24 : Int32)) (inb_of S94 ⟨(by decide), (by decide)⟩) (g := (mkF m 394 #[vi p0, vi p1, vi p2, vi p3, vi x1, vi x2, vi x3, vi (p3 &&& (3 : Int32)), vr a62, .unset, .unset, .unset, .unset] [(.int (121 : Int32)), (.int (24 : Int32)), (.ref a68), (.ref a68), (.ref a67), (.ref a67)])) rfl rfl (hb hby at_394)
        refine Fin.go st94 ?_
        have V94 := fillV (L := (tE [x1, x2])) (i := 24) (Arv.set B94 q94 S94 M94 H94 G94 (fits_nar_char _) W94 24 rfl (fillLt (show 24 < 26 from by decide))) (show nar .char (121 : Int32) = (121 : Int32) from by decide) (show 24 < 26 from by decide)
        have KK94 := KK93.wr W94 (Or.inl (List.mem_of_getElem? (i := 0) rfl))
        have N94 := Fr.snoc X94 N93 n68
        have O94 := O93.wr W94 n68
        have hk94 := Nat.le_trans hk93 (Keep.of_wr W94).1
        have RR94 := RR93.trans (CHr.wr W94 (Safe.arv hZ.alike V93 (by decide)) RR93.1)
        show Fin _ _ _ _ _ _ _ _ T94 (mkF m 395 #[vi p0, vi p1, vi p2, vi p3, vi x1, vi x2, vi x3, vi (p3 &&& (3 : Int32)), vr a62, .unset, .unset, .unset, .unset] [(.ref a68), (.ref a67), (.ref a67)])
        refine .go (fun _ k => XS.dup X94.here hx rfl (hb hby at_395) rfl rfl k) ?_
        refine .go (fun _ k => XS.bipush X94.here hx rfl (hb hby at_396) k) ?_
        refine .go (fun _ k => XS.bipush X94.here hx rfl (hb hby at_398) k) ?_
        obtain ⟨cz95, B95, q95, S95, M95, H95, G95⟩ := id V94
        obtain ⟨T95, h95, X95, e95, W95, st95⟩ := stC X94 hx hZ e94 B95 (j := (25 : Int32)) (inb_of S95 ⟨(by decide), (by decide)⟩) (g := (mkF m 400 #[vi p0, vi p1, vi p2, vi p3, vi x1, vi x2, vi x3, vi (p3 &&& (3 : Int32)), vr a62, .unset, .unset, .unset, .unset] [(.int (46 : Int32)), (.int (25 : Int32)), (.ref a68), (.ref a68), (.ref a67), (.ref a67)])) rfl rfl (hb hby at_400)
        refine Fin.go st95 ?_
        have V95 := fillV (L := (tE [x1, x2])) (i := 25) (Arv.set B95 q95 S95 M95 H95 G95 (fits_nar_char _) W95 25 rfl (fillLt (show 25 < 26 from by decide))) (show nar .char (46 : Int32) = (46 : Int32) from by decide) (show 25 < 26 from by decide)
        have KK95 := KK94.wr W95 (Or.inl (List.mem_of_getElem? (i := 0) rfl))
        have N95 := Fr.snoc X95 N94 n68
        have O95 := O94.wr W95 n68
        have hk95 := Nat.le_trans hk94 (Keep.of_wr W95).1
        have RR95 := RR94.trans (CHr.wr W95 (Safe.arv hZ.alike V94 (by decide)) RR94.1)
        show Fin _ _ _ _ _ _ _ _ T95 (mkF m 401 #[vi p0, vi p1, vi p2, vi p3, vi x1, vi x2, vi x3, vi (p3 &&& (3 : Int32)), vr a62, .unset, .unset, .unset, .unset] [(.ref a68), (.ref a67), (.ref a67)])
        have Ve96 := fillE V95 (n := 26) rfl rfl
        have Z96_a62 := (((Z66.ext E67).ext E68).keep KK95 (allS (Nat.le_trans (Z66.ext E67).le (Nat.le_of_eq g68.symm)) all0))
        have sf96_a67 := (Safe.keep KK95 (sfS (Safe.arv hZ.alike V69 (by decide)) sf0) RR68.1 (sf67.ext E68 RR67.1))
        have F96_a67_value := ((F67_value.ext E68).keep KK95 (ninS (Nat.ne_of_lt (Nat.lt_of_lt_of_eq A67.lt g68.symm)) nin0))
        have F96_a67_coder := ((F67_coder.ext E68).keep KK95 (ninS (Nat.ne_of_lt (Nat.lt_of_lt_of_eq A67.lt g68.symm)) nin0))
        obtain ⟨v97, T97, L97, X97, q97, st97⟩ := callCt X95 hx hZ (y := (⟨"java/lang/String", "<init>", "([C)V"⟩ : MethodName)) rfl hown (hw _ w_29) (hw _ w_30) (hw _ w_3) (hw _ w_31) (by decide) (W := 1) (rmIG l Z a0 hw n0 h95 O95 a67 a68 k68 ((tPre ++ [x1, x2]) ++ tPost) (show 0 < 26 from by decide) (show 26 ≤ 64 from by decide) (chG (chA (chA chPre (chS hx1 (chS hx2 ch0))) chPost)) cs S_cs hcs Ve96 ((A67.ext E68).keep KK95) F96_a67_coder F96_a67_value S_as S_hb S_lb n67 (Ne.symm (Nat.ne_of_lt (Nat.lt_of_lt_of_eq A67.lt g68.symm)))) e95 (by decide) (by decide) (by decide) (by decide) (g := (mkF m 401 #[vi p0, vi p1, vi p2, vi p3, vi x1, vi x2, vi x3, vi (p3 &&& (3 : Int32)), vr a62, .unset, .unset, .unset, .unset] [(.ref a68), (.ref a67), (.ref a67)])) rfl (by rw [hml]; rfl) (a := a67) (argsL := [(.ref a68)]) (rest := [(.ref a67)]) (lenOf pd_oACcV rfl) rfl (wk rfl rfl) (hb hby at_401)
        obtain ⟨rfl, Nq97, Kq97, A97, co97, d97, kd97, C97, F97, V97, zd97⟩ := q97
        have N97 := Fr.app N95 Nq97
        have O97 := O95.keep Kq97 (allS n67 all0)
        have RR97 := RR95.trans (CHr.keep Kq97 (sfS sf96_a67 sf0) RR95.1)
        have hk97 := Nat.le_trans hk95 Kq97.1
        refine Fin.go st97 ?_
        have Z97_a62 := (Z96_a62.keep Kq97 (allS (Nat.le_trans Z66.le (Nat.le_of_eq g67.symm)) all0))
        show Fin _ _ _ _ _ _ _ _ T97 (mkF m 404 #[vi p0, vi p1, vi p2, vi p3, vi x1, vi x2, vi x3, vi (p3 &&& (3 : Int32)), vr a62, .unset, .unset, .unset, .unset] [(.ref a67)])
        have Z97 : SX Z T97.heap a67 co97 ((tPre ++ [x1, x2]) ++ tPost) T97.heap.size := sxRaw A97 C97 F97 V97
        refine .go (fun _ k => XS.astore X97.here hx rfl (hb hby at_404) rfl rfl (l' := #[vi p0, vi p1, vi p2, vi p3, vi x1, vi x2, vi x3, vi (p3 &&& (3 : Int32)), vr a62, vr a67, .unset, .unset, .unset]) rfl k) ?_
        refine .go (fun _ k => XS.goto X97.here hx rfl (pc0 := 406) (pc' := 605) rfl (hb hby at_406) (by decide) (by decide) k) ?_
        refine .go (fun _ k => XS.aload X97.here hx rfl (hb hby at_605) rfl rfl k) ?_
        obtain ⟨v98, T98, L98, X98, hS98, hZ98, hown98, RC98, q98, st98⟩ := callStH X97 hx hZ (y := (⟨"com/example/spool/spool/http/HttpError", "methodNotAllowed", "(Ljava/lang/String;)Lcom/example/spool/spool/http/HttpError;"⟩ : MethodName)) hown (hw _ w_45) (hw _ w_46) (hw _ w_47) (hw _ w_48) (by decide) (W := 0) (rmMNA l Z a0 hw n0 T97.heap O97 a62 co66 [x1, x2] T66.heap.size (show 2 ≤ 3 from by decide) (chS hx1 (chS hx2 ch0)) Z97_a62 cs S_cs hcs S_as S_hb S_lb fm hfm S_fm us hus S_us ss hss S_ss) (rfl : T97.heap = T97.heap) hS hk97 hEL RR97.1 (by decide) (by decide) (by decide) (by decide) (g := (mkF m 607 #[vi p0, vi p1, vi p2, vi p3, vi x1, vi x2, vi x3, vi (p3 &&& (3 : Int32)), vr a62, vr a67, .unset, .unset, .unset] [(.ref a62)])) rfl (by rw [hml]; rfl) (argsL := [(.ref a62)]) (rest := []) (lenOf pd_oLjava_lang_String_cLcom_example_spool_spool_http_HttpError_ rfl) rfl (wk rfl rfl) (hb hby at_607)
        obtain ⟨u98, ck98, g98, cg98, rfl, Nq98, Kq98, U98, U098, U198, U298, U398, Zc98, Zg98⟩ := q98
        have N98 := Fr.app N97 Nq98
        have O98 := O97.keep Kq98 all0
        have RR98 := RR97.trans RC98
        refine Fin.go st98 ?_
        show Fin _ _ _ _ _ _ _ _ T98 (mkF m 610 #[vi p0, vi p1, vi p2, vi p3, vi x1, vi x2, vi x3, vi (p3 &&& (3 : Int32)), vr a62, vr a67, .unset, .unset, .unset] [(.ref u98)])
        refine .go (fun _ k => XS.astore X98.here hx rfl (hb hby at_610) rfl rfl (l' := #[vi p0, vi p1, vi p2, vi p3, vi x1, vi x2, vi x3, vi (p3 &&& (3 : Int32)), vr a62, vr a67, vr u98, .unset, .unset]) rfl k) ?_
        refine .go (fun _ k => XS.aload X98.here hx rfl (hb hby at_612) rfl rfl k) ?_
        obtain ⟨v99, T99, L99, X99, q99, st99⟩ := callVt X98 hx hZ98 (y := (⟨"com/example/spool/spool/http/HttpError", "allowed", "()Ljava/lang/String;"⟩ : MethodName)) hown98 (hw _ w_214) (hw _ w_215) (hw _ w_217) (hw _ w_216) (hw _ w_47) (hw _ w_218) (by decide) (W := 0) (rmGa l Z a0 hw n0 T98.heap O98 u98 a62 U298) (rfl : T98.heap = T98.heap) U98 (by decide) (by decide) (by decide) (by decide) (g := (mkF m 614 #[vi p0, vi p1, vi p2, vi p3, vi x1, vi x2, vi x3, vi (p3 &&& (3 : Int32)), vr a62, vr a67, vr u98, .unset, .unset] [(.ref u98)])) rfl (by rw [hml]; rfl) (argsL := []) (rest := []) (lenOf pd_ocLjava_lang_String_ rfl) rfl (wk rfl rfl) (hb hby at_614)
        obtain ⟨rfl, e99, rfl⟩ := q99
        have N99 := Fr.app N98 (Fr.nil n0)
        refine Fin.go st99 ?_
        show Fin _ _ _ _ _ _ _ _ T99 (mkF m 617 #[vi p0, vi p1, vi p2, vi p3, vi x1, vi x2, vi x3, vi (p3 &&& (3 : Int32)), vr a62, vr a67, vr u98, .unset, .unset] [(.ref a62)])
        refine .go (fun _ k => XS.astore X99.here hx rfl (hb hby at_617) rfl rfl (l' := #[vi p0, vi p1, vi p2, vi p3, vi x1, vi x2, vi x3, vi (p3 &&& (3 : Int32)), vr a62, vr a67, vr u98, vr a62, .unset]) rfl k) ?_
        refine .go (fun _ k => XS.aload X99.here hx rfl (hb hby at_619) rfl rfl k) ?_
        obtain ⟨v100, T100, L100, X100, q100, st100⟩ := callVUt X99 hx hZ98 (y := (⟨"com/example/spool/spool/http/HttpError", "getMessage", "()Ljava/lang/String;"⟩ : MethodName)) (z := (⟨"java/lang/Throwable", "getMessage", "()Ljava/lang/String;"⟩ : MethodName)) (owner := "java/lang/Throwable") hown98 (hw _ w_219) (hw _ w_220) (hw _ w_221) (hw _ w_223) (hw _ w_222) (hw _ w_195) (hw _ w_224) (by decide) (W := 0) (rmGm l Z a0 hw n0 T98.heap O98 u98 g98 U398) e99 U98 (by decide) (by decide) (by decide) (by decide) (g := (mkF m 621 #[vi p0, vi p1, vi p2, vi p3, vi x1, vi x2, vi x3, vi (p3 &&& (3 : Int32)), vr a62, vr a67, vr u98, vr a62, .unset] [(.ref u98)])) rfl (by rw [hml]; rfl) (argsL := []) (rest := []) (lenOf pd_ocLjava_lang_String_ rfl) rfl (wk rfl rfl) (hb hby at_621)
        obtain ⟨rfl, e100, rfl⟩ := q100
        have N100 := Fr.app N99 (Fr.nil n0)
        refine Fin.go st100 ?_
        show Fin _ _ _ _ _ _ _ _ T100 (mkF m 624 #[vi p0, vi p1, vi p2, vi p3, vi x1, vi x2, vi x3, vi (p3 &&& (3 : Int32)), vr a62, vr a67, vr u98, vr a62, .unset] [(.ref g98)])
        refine .go (fun _ k => XS.astore X100.here hx rfl (hb hby at_624) rfl rfl (l' := #[vi p0, vi p1, vi p2, vi p3, vi x1, vi x2, vi x3, vi (p3 &&& (3 : Int32)), vr a62, vr a67, vr u98, vr a62, vr g98]) rfl k) ?_
        refine .go (fun _ k => XS.aload X100.here hx rfl (hb hby at_626) rfl rfl k) ?_
        obtain ⟨v101, T101, L101, X101, q101, st101⟩ := callVt X100 hx hZ98 (y := (⟨"com/example/spool/spool/http/HttpError", "status", "()I"⟩ : MethodName)) hown98 (hw _ w_225) (hw _ w_226) (hw _ w_228) (hw _ w_227) (hw _ w_47) (hw _ w_229) (by decide) (W := 0) (rmGs l Z a0 hw n0 T98.heap O98 u98 u98 U098) e100 U98 (by decide) (by decide) (by decide) (by decide) (g := (mkF m 628 #[vi p0, vi p1, vi p2, vi p3, vi x1, vi x2, vi x3, vi (p3 &&& (3 : Int32)), vr a62, vr a67, vr u98, vr a62, vr g98] [(.ref u98)])) rfl (by rw [hml]; rfl) (argsL := []) (rest := []) (lenOf pd_ocI rfl) rfl (wk rfl rfl) (hb hby at_628)
        obtain ⟨rfl, e101, rfl⟩ := q101
        have N101 := Fr.app N100 (Fr.nil n0)
        refine Fin.go st101 ?_
        show Fin _ _ _ _ _ _ _ _ T101 (mkF m 631 #[vi p0, vi p1, vi p2, vi p3, vi x1, vi x2, vi x3, vi (p3 &&& (3 : Int32)), vr a62, vr a67, vr u98, vr a62, vr g98] [(.int (405 : Int32))])
        refine .go (fun _ k => XS.sipush X101.here hx rfl (hb hby at_631) k) ?_
        refine .go (fun _ k => XS.icmpNo X101.here hx rfl (hb hby at_634) rfl (XT.ii_ne_f (by decide)) k) ?_
        show Fin _ _ _ _ _ _ _ _ T101 (mkF m 637 #[vi p0, vi p1, vi p2, vi p3, vi x1, vi x2, vi x3, vi (p3 &&& (3 : Int32)), vr a62, vr a67, vr u98, vr a62, vr g98] [])
        obtain ⟨a102, T102, h102, k102, b102, kb102, X102, e102, E102, hS102, hj102, hZ102, hown102, A102, C102, F102, V102, l1102, l2102, RC102, lt102, ns102, st102⟩ := ldcCH X101 hx hZ98 hown98 (hw _ w_230) (strW hw) e101 hS98 (Nat.le_refl T98.heap.size) hEL (by decide) RR98.1 (vs := [(.int (109 : Int32)), (.int (101 : Int32)), (.int (116 : Int32)), (.int (104 : Int32)), (.int (111 : Int32)), (.int (100 : Int32)), (.int (95 : Int32)), (.int (110 : Int32)), (.int (111 : Int32)), (.int (116 : Int32)), (.int (95 : Int32)), (.int (97 : Int32)), (.int (108 : Int32)), (.int (108 : Int32)), (.int (111 : Int32)), (.int (119 : Int32)), (.int (101 : Int32)), (.int (100 : Int32))]) (z := (18 : Int32)) (by decide +kernel) (by decide) (by decide) (g := (mkF m 637 #[vi p0, vi p1, vi p2, vi p3, vi x1, vi x2, vi x3, vi (p3 &&& (3 : Int32)), vr a62, vr a67, vr u98, vr a62, vr g98] [])) rfl (hb hby at_637) (n := 72) (by decide) (by decide) (by decide) (by decide)
        refine Fin.go st102 ?_
        have O102 := O98.ext E102
        have RR102 := RR98.trans RC102
        show Fin _ _ _ _ _ _ _ _ T102 (mkF m 639 #[vi p0, vi p1, vi p2, vi p3, vi x1, vi x2, vi x3, vi (p3 &&& (3 : Int32)), vr a62, vr a67, vr u98, vr a62, vr g98] [(.ref a102)])
        have Z102 : SX Z h102 a102 0 tCode h102.size := sxRaw A102 C102 F102 (bxLit V102 rfl (by decide) rfl (by decide))
        refine .go (fun _ k => XS.aload X102.here hx rfl (hb hby at_639) rfl rfl k) ?_
        obtain ⟨v103, T103, L103, X103, q103, st103⟩ := callVt X102 hx hZ102 (y := (⟨"com/example/spool/spool/http/HttpError", "code", "()Ljava/lang/String;"⟩ : MethodName)) hown102 (hw _ w_231) (hw _ w_232) (hw _ w_234) (hw _ w_233) (hw _ w_47) (hw _ w_235) (by decide) (W := 1) (rmGc l Z a0 hw n0 h102 O102 u98 ck98 (U198.ext E102)) e102 (U98.ext E102) (by decide) (by decide) (by decide) (by decide) (g := (mkF m 641 #[vi p0, vi p1, vi p2, vi p3, vi x1, vi x2, vi x3, vi (p3 &&& (3 : Int32)), vr a62, vr a67, vr u98, vr a62, vr g98] [(.ref u98), (.ref a102)])) rfl (by rw [hml]; rfl) (argsL := []) (rest := [(.ref a102)]) (lenOf pd_ocLjava_lang_String_ rfl) rfl (wk rfl rfl) (hb hby at_641)
        obtain ⟨rfl, e103, rfl⟩ := q103
        have N103 := Fr.app N101 (Fr.nil n0)
        refine Fin.go st103 ?_
        show Fin _ _ _ _ _ _ _ _ T103 (mkF m 644 #[vi p0, vi p1, vi p2, vi p3, vi x1, vi x2, vi x3, vi (p3 &&& (3 : Int32)), vr a62, vr a67, vr u98, vr a62, vr g98] [(.ref ck98), (.ref a102)])
        obtain ⟨v104, T104, L104, X104, q104, st104⟩ := callVt X103 hx hZ102 (y := (⟨"java/lang/String", "equals", "(Ljava/lang/Object;)Z"⟩ : MethodName)) hown102 (hw _ w_236) (hw _ w_237) (hw _ w_239) (hw _ w_238) (hw _ w_3) (hw _ w_240) (by decide) (W := 0) (rmEqX l Z a0 hw n0 h102 O102 a102 ck98 0 0 tCode h102.size T98.heap.size (by decide) Z102 (Zc98.ext E102) cs S_cs hcs) e103 Z102.exa (by decide) (by decide) (by decide) (by decide) (g := (mkF m 644 #[vi p0, vi p1, vi p2, vi p3, vi x1, vi x2, vi x3, vi (p3 &&& (3 : Int32)), vr a62, vr a67, vr u98, vr a62, vr g98] [(.ref ck98), (.ref a102)])) rfl (by rw [hml]; rfl) (argsL := [(.ref ck98)]) (rest := []) (lenOf pd_oLjava_lang_Object_cZ rfl) rfl (wk rfl rfl) (hb hby at_644)
        obtain ⟨rfl, e104, rfl⟩ := q104
        have N104 := Fr.app N103 (Fr.nil n0)
        refine Fin.go st104 ?_
        show Fin _ _ _ _ _ _ _ _ T104 (mkF m 647 #[vi p0, vi p1, vi p2, vi p3, vi x1, vi x2, vi x3, vi (p3 &&& (3 : Int32)), vr a62, vr a67, vr u98, vr a62, vr g98] [(.int (1 : Int32))])
        refine .go (fun _ k => XS.ifNo X104.here hx rfl (hb hby at_647) rfl (XT.i0_eq_f (by decide)) k) ?_
        show Fin _ _ _ _ _ _ _ _ T104 (mkF m 650 #[vi p0, vi p1, vi p2, vi p3, vi x1, vi x2, vi x3, vi (p3 &&& (3 : Int32)), vr a62, vr a67, vr u98, vr a62, vr g98] [])
        refine .go (fun _ k => XS.aload X104.here hx rfl (hb hby at_650) rfl rfl k) ?_
        refine .go (fun _ k => XS.ifnullNo X104.here hx rfl (hb hby at_652) rfl k) ?_
        refine .go (fun _ k => XS.aload X104.here hx rfl (hb hby at_655) rfl rfl k) ?_
        refine .go (fun _ k => XS.aload X104.here hx rfl (hb hby at_657) rfl rfl k) ?_
        show Fin _ _ _ _ _ _ _ _ T104 (mkF m 659 #[vi p0, vi p1, vi p2, vi p3, vi x1, vi x2, vi x3, vi (p3 &&& (3 : Int32)), vr a62, vr a67, vr u98, vr a62, vr g98] [(.ref a62), (.ref a62)])
        obtain ⟨v105, T105, L105, X105, q105, st105⟩ := callVt X104 hx hZ102 (y := (⟨"java/lang/String", "equals", "(Ljava/lang/Object;)Z"⟩ : MethodName)) hown102 (hw _ w_236) (hw _ w_237) (hw _ w_239) (hw _ w_238) (hw _ w_3) (hw _ w_240) (by decide) (W := 0) (rmEqX l Z a0 hw n0 h102 O102 a62 a62 co66 co66 [x1, x2] T66.heap.size T66.heap.size (show 2 ≤ 64 from by decide) ((Z97_a62.keep Kq98 all0).ext E102) ((Z97_a62.keep Kq98 all0).ext E102) cs S_cs hcs) e104 ((Z97_a62.keep Kq98 all0).ext E102).exa (by decide) (by decide) (by decide) (by decide) (g := (mkF m 659 #[vi p0, vi p1, vi p2, vi p3, vi x1, vi x2, vi x3, vi (p3 &&& (3 : Int32)), vr a62, vr a67, vr u98, vr a62, vr g98] [(.ref a62), (.ref a62)])) rfl (by rw [hml]; rfl) (argsL := [(.ref a62)]) (rest := []) (lenOf pd_oLjava_lang_Object_cZ rfl) rfl (wk rfl rfl) (hb hby at_659)
        obtain ⟨rfl, e105, rfl⟩ := q105
        have N105 := Fr.app N104 (Fr.nil n0)
        refine Fin.go st105 ?_
        show Fin _ _ _ _ _ _ _ _ T105 (mkF m 662 #[vi p0, vi p1, vi p2, vi p3, vi x1, vi x2, vi x3, vi (p3 &&& (3 : Int32)), vr a62, vr a67, vr u98, vr a62, vr g98] [(.int (1 : Int32))])
        refine .go (fun _ k => XS.ifNo X105.here hx rfl (hb hby at_662) rfl (XT.i0_eq_f (by decide)) k) ?_
        show Fin _ _ _ _ _ _ _ _ T105 (mkF m 665 #[vi p0, vi p1, vi p2, vi p3, vi x1, vi x2, vi x3, vi (p3 &&& (3 : Int32)), vr a62, vr a67, vr u98, vr a62, vr g98] [])
        refine .go (fun _ k => XS.aload X105.here hx rfl (hb hby at_665) rfl rfl k) ?_
        refine .go (fun _ k => XS.ifnullNo X105.here hx rfl (hb hby at_667) rfl k) ?_
        refine .go (fun _ k => XS.aload X105.here hx rfl (hb hby at_670) rfl rfl k) ?_
        refine .go (fun _ k => XS.aload X105.here hx rfl (hb hby at_672) rfl rfl k) ?_
        show Fin _ _ _ _ _ _ _ _ T105 (mkF m 674 #[vi p0, vi p1, vi p2, vi p3, vi x1, vi x2, vi x3, vi (p3 &&& (3 : Int32)), vr a62, vr a67, vr u98, vr a62, vr g98] [(.ref g98), (.ref a67)])
        obtain ⟨v106, T106, L106, X106, q106, st106⟩ := callVt X105 hx hZ102 (y := (⟨"java/lang/String", "equals", "(Ljava/lang/Object;)Z"⟩ : MethodName)) hown102 (hw _ w_236) (hw _ w_237) (hw _ w_239) (hw _ w_238) (hw _ w_3) (hw _ w_240) (by decide) (W := 0) (rmEqX l Z a0 hw n0 h102 O102 a67 g98 co97 cg98 ((tPre ++ [x1, x2]) ++ tPost) T97.heap.size T98.heap.size (show 26 ≤ 64 from by decide) ((Z97.keep Kq98 all0).ext E102) (Zg98.ext E102) cs S_cs hcs) e105 ((Z97.keep Kq98 all0).ext E102).exa (by decide) (by decide) (by decide) (by decide) (g := (mkF m 674 #[vi p0, vi p1, vi p2, vi p3, vi x1, vi x2, vi x3, vi (p3 &&& (3 : Int32)), vr a62, vr a67, vr u98, vr a62, vr g98] [(.ref g98), (.ref a67)])) rfl (by rw [hml]; rfl) (argsL := [(.ref g98)]) (rest := []) (lenOf pd_oLjava_lang_Object_cZ rfl) rfl (wk rfl rfl) (hb hby at_674)
        obtain ⟨rfl, e106, rfl⟩ := q106
        have N106 := Fr.app N105 (Fr.nil n0)
        refine Fin.go st106 ?_
        show Fin _ _ _ _ _ _ _ _ T106 (mkF m 677 #[vi p0, vi p1, vi p2, vi p3, vi x1, vi x2, vi x3, vi (p3 &&& (3 : Int32)), vr a62, vr a67, vr u98, vr a62, vr g98] [(.int (1 : Int32))])
        refine .go (fun _ k => XS.ifNo X106.here hx rfl (hb hby at_677) rfl (XT.i0_eq_f (by decide)) k) ?_
        show Fin _ _ _ _ _ _ _ _ T106 (mkF m 680 #[vi p0, vi p1, vi p2, vi p3, vi x1, vi x2, vi x3, vi (p3 &&& (3 : Int32)), vr a62, vr a67, vr u98, vr a62, vr g98] [])
        refine .go (fun _ k => XS.iconst X106.here hx rfl (hb hby at_680) k) ?_
        refine .go (fun _ k => XS.goto X106.here hx rfl (pc0 := 681) (pc' := 685) rfl (hb hby at_681) (by decide) (by decide) k) ?_
        exact Fin.leaveH X106 hS102 hj102 hZ102 hEL e106 RR102 hlk (v := some (.int (nar .boolean (1 : Int32)))) (nvS hret) (by decide) (by decide) ⟨rfl, N106⟩ (fun fs hr => retN X106 hx (t := .boolean) hret (by simp) (hb hby at_685) hr)
      · refine .go (fun _ k => XS.icmpYes X0.here hx rfl (pc0 := 218) (pc' := 409) rfl (hb hby at_218) rfl (XT.ii_ne_t c218) (by decide) (by decide) k) ?_
        show Fin _ _ _ _ _ _ _ _ s₁ (mkF m 409 #[vi p0, vi p1, vi p2, vi p3, vi x1, vi x2, vi x3, vi (p3 &&& (3 : Int32)), .unset, .unset, .unset, .unset, .unset] [])
        obtain ⟨T107, h107, X107, e107, E107, A107, D107, U107, st107⟩ := newO X0 hx hZ hown (hw _ w_27) (hw _ w_11) (hw _ w_3) e0 (g := (mkF m 409 #[vi p0, vi p1, vi p2, vi p3, vi x1, vi x2, vi x3, vi (p3 &&& (3 : Int32)), .unset, .unset, .unset, .unset, .unset] [])) rfl (hb hby at_409) (by decide) (by decide)
        obtain ⟨a107, g107⟩ : ∃ z, z = h0.size := ⟨_, rfl⟩
        rw [← g107] at A107 D107 U107 st107
        refine Fin.go st107 ?_
        have O107 := O.ext E107
        have hk107 := Nat.le_trans (Nat.zero_le _) E107.1
        have RR107 := RR0.trans (CHr.ext E107 RR0.1)
        have n107 : n0 ≤ a107 := by have := O.2.1; have := O.1; omega
        have sf107 := (Safe.new (Z := Z) (EL := EL) (vm := s.vm) (Nat.le_of_eq g107.symm)).ext E107 RR0.1
        have F107_value : Fld Z h107 a107 "java/lang/String" "value" "[B" .null := D107 (Or.inr (hw _ w_24)) (ty := (.array .byte)) (by decide)
        have F107_coder : Fld Z h107 a107 "java/lang/String" "coder" "B" (.int (0 : Int32)) := D107 (Or.inr (hw _ w_26)) (ty := .byte) (by decide)
        show Fin _ _ _ _ _ _ _ _ T107 (mkF m 412 #[vi p0, vi p1, vi p2, vi p3, vi x1, vi x2, vi x3, vi (p3 &&& (3 : Int32)), .unset, .unset, .unset, .unset, .unset] [(.ref a107)])
        refine .go (fun _ k => XS.dup X107.here hx rfl (hb hby at_412) rfl rfl k) ?_
        refine .go (fun _ k => XS.iconst X107.here hx rfl (hb hby at_413) k) ?_
        obtain ⟨T108, h108, k108, X108, e108, E108, A108, st108⟩ := newP X107 hx hZ (aty := .char) (hw _ w_28) e107 (g := (mkF m 414 #[vi p0, vi p1, vi p2, vi p3, vi x1, vi x2, vi x3, vi (p3 &&& (3 : Int32)), .unset, .unset, .unset, .unset, .unset] [(.int (3 : Int32)), (.ref a107), (.ref a107)])) rfl (hb hby at_414) rfl (by decide : ¬ ((3 : Int32) < (0 : Int32))) (cap := 3) (by decide) (by decide) (by decide) (by decide)
        obtain ⟨a108, g108⟩ : ∃ z, z = h107.size := ⟨_, rfl⟩
        rw [← g108] at A108 st108
        refine Fin.go st108 ?_
        have O108 := O107.ext E108
        have hk108 := Nat.le_trans hk107 E108.1
        have RR108 := RR107.trans (CHr.ext E108 RR107.1)
        have n108 : n0 ≤ a108 := by have := O107.2.1; have := O107.1; omega
        have V108 : Arv Z h108 a108 k108 .char (3 : Int32) [(.int (0 : Int32)), (.int (0 : Int32)), (.int (0 : Int32))] (.int (0 : Int32)) := (Arv.new A108 (by decide)).pad (pad_rep [] (.int (0 : Int32)) 3)
        show Fin _ _ _ _ _ _ _ _ T108 (mkF m 416 #[vi p0, vi p1, vi p2, vi p3, vi x1, vi x2, vi x3, vi (p3 &&& (3 : Int32)), .unset, .unset, .unset, .unset, .unset] [(.ref a108), (.ref a107), (.ref a107)])
        refine .go (fun _ k => XS.dup X108.here hx rfl (hb hby at_416) rfl rfl k) ?_
        refine .go (fun _ k => XS.iconst X108.here hx rfl (hb hby at_417) k) ?_
        refine .go (fun _ k => XS.iload X108.here hx rfl (hb hby at_418) rfl k) ?_
        obtain ⟨cz109, B109, q109, S109, M109, H109, G109⟩ := id V108
        obtain ⟨T109, h109, X109, e109, W109, st109⟩ := stC X108 hx hZ e108 B109 (j := (0 : Int32)) (inb_of S109 ⟨(by decide : ¬ ((0 : Int32) < (0 : Int32))), (by decide : (0 : Int32) < (3 : Int32))⟩) (g := (mkF m 420 #[vi p0, vi p1, vi p2, vi p3, vi x1, vi x2, vi x3, vi (p3 &&& (3 : Int32)), .unset, .unset, .unset, .unset, .unset] [(.int x1), (.int (0 : Int32)), (.ref a108), (.ref a108), (.ref a107), (.ref a107)])) rfl rfl (hb hby at_420)
        refine Fin.go st109 ?_
        have V109 : Arv Z h109 a108 k108 .char (3 : Int32) [(.int x1), (.int (0 : Int32)), (.int (0 : Int32))] (.int (0 : Int32)) := (by have q : Arv Z h109 a108 k108 .char (3 : Int32) [(.int (nar .char x1)), (.int (0 : Int32)), (.int (0 : Int32))] (.int (0 : Int32)) := (Arv.set B109 q109 S109 M109 H109 G109 (fits_nar_char _) W109 0 rfl (Nat.le_of_ble_eq_true rfl)); rwa [narC _ hx1] at q)
        have N109 := Fr.snoc X109 N0 n108
        have O109 := O108.wr W109 n108
        have hk109 := Nat.le_trans hk108 (Keep.of_wr W109).1
        have RR109 := RR108.trans (CHr.wr W109 (Safe.arv hZ.alike V108 (by decide)) RR108.1)
        have sf109_a107 := (Safe.wr W109 (Safe.arv hZ.alike V108 (by decide)) RR108.1 (sf107.ext E108 RR107.1))
        have F109_a107_value := ((F107_value.ext E108).other W109 (Or.inl (Nat.ne_of_lt (Nat.lt_of_lt_of_eq A107.lt g108.symm))))
        have F109_a107_coder := ((F107_coder.ext E108).other W109 (Or.inl (Nat.ne_of_lt (Nat.lt_of_lt_of_eq A107.lt g108.symm))))
        show Fin _ _ _ _ _ _ _ _ T109 (mkF m 421 #[vi p0, vi p1, vi p2, vi p3, vi x1, vi x2, vi x3, vi (p3 &&& (3 : Int32)), .unset, .unset, .unset, .unset, .unset] [(.ref a108), (.ref a107), (.ref a107)])
        refine .go (fun _ k => XS.dup X109.here hx rfl (hb hby at_421) rfl rfl k) ?_
        refine .go (fun _ k => XS.iconst X109.here hx rfl (hb hby at_422) k) ?_
        refine .go (fun _ k => XS.iload X109.here hx rfl (hb hby at_423) rfl k) ?_
        obtain ⟨cz110, B110, q110, S110, M110, H110, G110⟩ := id V109
        obtain ⟨T110, h110, X110, e110, W110, st110⟩ := stC X109 hx hZ e109 B110 (j := (1 : Int32)) (inb_of S110 ⟨(by decide : ¬ ((1 : Int32) < (0 : Int32))), (by decide : (1 : Int32) < (3 : Int32))⟩) (g := (mkF m 425 #[vi p0, vi p1, vi p2, vi p3, vi x1, vi x2, vi x3, vi (p3 &&& (3 : Int32)), .unset, .unset, .unset, .unset, .unset] [(.int x2), (.int (1 : Int32)), (.ref a108), (.ref a108), (.ref a107), (.ref a107)])) rfl rfl (hb hby at_425)
        refine Fin.go st110 ?_
        have V110 : Arv Z h110 a108 k108 .char (3 : Int32) [(.int x1), (.int x2), (.int (0 : Int32))] (.int (0 : Int32)) := (by have q : Arv Z h110 a108 k108 .char (3 : Int32) [(.int x1), (.int (nar .char x2)), (.int (0 : Int32))] (.int (0 : Int32)) := (Arv.set B110 q110 S110 M110 H110 G110 (fits_nar_char _) W110 1 rfl (Nat.le_of_ble_eq_true rfl)); rwa [narC _ hx2] at q)
        have N110 := Fr.snoc X110 N109 n108
        have O110 := O109.wr W110 n108
        have hk110 := Nat.le_trans hk109 (Keep.of_wr W110).1
        have RR110 := RR109.trans (CHr.wr W110 (Safe.arv hZ.alike V109 (by decide)) RR109.1)
        have sf110_a107 := (Safe.wr W110 (Safe.arv hZ.alike V109 (by decide)) RR109.1 sf109_a107)
        have F110_a107_value := (F109_a107_value.other W110 (Or.inl (Nat.ne_of_lt (Nat.lt_of_lt_of_eq A107.lt g108.symm))))
        have F110_a107_coder := (F109_a107_coder.other W110 (Or.inl (Nat.ne_of_lt (Nat.lt_of_lt_of_eq A107.lt g108.symm))))
        show Fin _ _ _ _ _ _ _ _ T110 (mkF m 426 #[vi p0, vi p1, vi p2, vi p3, vi x1, vi x2, vi x3, vi (p3 &&& (3 : Int32)), .unset, .unset, .unset, .unset, .unset] [(.ref a108), (.ref a107), (.ref a107)])
        refine .go (fun _ k => XS.dup X110.here hx rfl (hb hby at_426) rfl rfl k) ?_
        refine .go (fun _ k => XS.iconst X110.here hx rfl (hb hby at_427) k) ?_
        refine .go (fun _ k => XS.iload X110.here hx rfl (hb hby at_428) rfl k) ?_
        obtain ⟨cz111, B111, q111, S111, M111, H111, G111⟩ := id V110
        obtain ⟨T111, h111, X111, e111, W111, st111⟩ := stC X110 hx hZ e110 B111 (j := (2 : Int32)) (inb_of S111 ⟨(by decide : ¬ ((2 : Int32) < (0 : Int32))), (by decide : (2 : Int32) < (3 : Int32))⟩) (g := (mkF m 430 #[vi p0, vi p1, vi p2, vi p3, vi x1, vi x2, vi x3, vi (p3 &&& (3 : Int32)), .unset, .unset, .unset, .unset, .unset] [(.int x3), (.int (2 : Int32)), (.ref a108), (.ref a108), (.ref a107), (.ref a107)])) rfl rfl (hb hby at_430)
        refine Fin.go st111 ?_
        have V111 : Arv Z h111 a108 k108 .char (3 : Int32) [(.int x1), (.int x2), (.int x3)] (.int (0 : Int32)) := (by have q : Arv Z h111 a108 k108 .char (3 : Int32) [(.int x1), (.int x2), (.int (nar .char x3))] (.int (0 : Int32)) := (Arv.set B111 q111 S111 M111 H111 G111 (fits_nar_char _) W111 2 rfl (Nat.le_of_ble_eq_true rfl)); rwa [narC _ hx3] at q)
        have N111 := Fr.snoc X111 N110 n108
        have O111 := O110.wr W111 n108
        have hk111 := Nat.le_trans hk110 (Keep.of_wr W111).1
        have RR111 := RR110.trans (CHr.wr W111 (Safe.arv hZ.alike V110 (by decide)) RR110.1)
        have sf111_a107 := (Safe.wr W111 (Safe.arv hZ.alike V110 (by decide)) RR110.1 sf110_a107)
        have F111_a107_value := (F110_a107_value.other W111 (Or.inl (Nat.ne_of_lt (Nat.lt_of_lt_of_eq A107.lt g108.symm))))
        have F111_a107_coder := (F110_a107_coder.other W111 (Or.inl (Nat.ne_of_lt (Nat.lt_of_lt_of_eq A107.lt g108.symm))))
        show Fin _ _ _ _ _ _ _ _ T111 (mkF m 431 #[vi p0, vi p1, vi p2, vi p3, vi x1, vi x2, vi x3, vi (p3 &&& (3 : Int32)), .unset, .unset, .unset, .unset, .unset] [(.ref a108), (.ref a107), (.ref a107)])
        obtain ⟨v112, T112, L112, X112, q112, st112⟩ := callCt X111 hx hZ (y := (⟨"java/lang/String", "<init>", "([C)V"⟩ : MethodName)) rfl hown (hw _ w_29) (hw _ w_30) (hw _ w_3) (hw _ w_31) (by decide) (W := 1) (rmIG l Z a0 hw n0 h111 O111 a107 a108 k108 [x1, x2, x3] (show 0 < 3 from by decide) (show 3 ≤ 64 from by decide) (chG (chS hx1 (chS hx2 (chS hx3 ch0)))) cs S_cs hcs V111 ((((A107.ext E108).wr W109).wr W110).wr W111) F111_a107_coder F111_a107_value S_as S_hb S_lb n107 (Ne.symm (Nat.ne_of_lt (Nat.lt_of_lt_of_eq A107.lt g108.symm)))) e111 (by decide) (by decide) (by decide) (by decide) (g := (mkF m 431 #[vi p0, vi p1, vi p2, vi p3, vi x1, vi x2, vi x3, vi (p3 &&& (3 : Int32)), .unset, .unset, .unset, .unset, .unset] [(.ref a108), (.ref a107), (.ref a107)])) rfl (by rw [hml]; rfl) (a := a107) (argsL := [(.ref a108)]) (rest := [(.ref a107)]) (lenOf pd_oACcV rfl) rfl (wk rfl rfl) (hb hby at_431)
        obtain ⟨rfl, Nq112, Kq112, A112, co112, d112, kd112, C112, F112, V112, zd112⟩ := q112
        have N112 := Fr.app N111 Nq112
        have O112 := O111.keep Kq112 (allS n107 all0)
        have RR112 := RR111.trans (CHr.keep Kq112 (sfS sf111_a107 sf0) RR111.1)
        have hk112 := Nat.le_trans hk111 Kq112.1
        refine Fin.go st112 ?_
        show Fin _ _ _ _ _ _ _ _ T112 (mkF m 434 #[vi p0, vi p1, vi p2, vi p3, vi x1, vi x2, vi x3, vi (p3 &&& (3 : Int32)), .unset, .unset, .unset, .unset, .unset] [(.ref a107)])
        have Z112 : SX Z T112.heap a107 co112 [x1, x2, x3] T112.heap.size := sxRaw A112 C112 F112 V112
        refine .go (fun _ k => XS.astore X112.here hx rfl (hb hby at_434) rfl rfl (l' := #[vi p0, vi p1, vi p2, vi p3, vi x1, vi x2, vi x3, vi (p3 &&& (3 : Int32)), vr a107, .unset, .unset, .unset, .unset]) rfl k) ?_
        obtain ⟨T113, h113, X113, e113, E113, A113, D113, U113, st113⟩ := newO X112 hx hZ hown (hw _ w_27) (hw _ w_11) (hw _ w_3) (rfl : T112.heap = T112.heap) (g := (mkF m 436 #[vi p0, vi p1, vi p2, vi p3, vi x1, vi x2, vi x3, vi (p3 &&& (3 : Int32)), vr a107, .unset, .unset, .unset, .unset] [])) rfl (hb hby at_436) (by decide) (by decide)
        obtain ⟨a113, g113⟩ : ∃ z, z = T112.heap.size := ⟨_, rfl⟩
        rw [← g113] at A113 D113 U113 st113
        refine Fin.go st113 ?_
        have O113 := O112.ext E113
        have hk113 := Nat.le_trans hk112 E113.1
        have RR113 := RR112.trans (CHr.ext E113 RR112.1)
        have n113 : n0 ≤ a113 := by have := O112.2.1; have := O112.1; omega
        have sf113 := (Safe.new (Z := Z) (EL := EL) (vm := s.vm) (Nat.le_of_eq g113.symm)).ext E113 RR112.1
        have F113_value : Fld Z h113 a113 "java/lang/String" "value" "[B" .null := D113 (Or.inr (hw _ w_24)) (ty := (.array .byte)) (by decide)
        have F113_coder : Fld Z h113 a113 "java/lang/String" "coder" "B" (.int (0 : Int32)) := D113 (Or.inr (hw _ w_26)) (ty := .byte) (by decide)
        show Fin _ _ _ _ _ _ _ _ T113 (mkF m 439 #[vi p0, vi p1, vi p2, vi p3, vi x1, vi x2, vi x3, vi (p3 &&& (3 : Int32)), vr a107, .unset, .unset, .unset, .unset] [(.ref a113)])
        refine .go (fun _ k => XS.dup X113.here hx rfl (hb hby at_439) rfl rfl k) ?_
        refine .go (fun _ k => XS.bipush X113.here hx rfl (hb hby at_440) k) ?_
        obtain ⟨T114, h114, k114, X114, e114, E114, A114, st114⟩ := newP X113 hx hZ (aty := .char) (hw _ w_28) e113 (g := (mkF m 442 #[vi p0, vi p1, vi p2, vi p3, vi x1, vi x2, vi x3, vi (p3 &&& (3 : Int32)), vr a107, .unset, .unset, .unset, .unset] [(.int (27 : Int32)), (.ref a113), (.ref a113)])) rfl (hb hby at_442) rfl (by decide : ¬ ((27 : Int32) < (0 : Int32))) (cap := 27) (by decide) (by decide) (by decide) (by decide)
        obtain ⟨a114, g114⟩ : ∃ z, z = h113.size := ⟨_, rfl⟩
        rw [← g114] at A114 st114
        refine Fin.go st114 ?_
        have O114 := O113.ext E114
        have hk114 := Nat.le_trans hk113 E114.1
        have RR114 := RR113.trans (CHr.ext E114 RR113.1)
        have n114 : n0 ≤ a114 := by have := O113.2.1; have := O113.1; omega
        have V114 : Arv Z h114 a114 k114 .char (27 : Int32) [(.int (0 : Int32)), (.int (0 : Int32)), (.int (0 : Int32)), (.int (0 : Int32)), (.int (0 : Int32)), (.int (0 : Int32)), (.int (0 : Int32)), (.int (0 : Int32)), (.int (0 : Int32)), (.int (0 : Int32)), (.int (0 : Int32)), (.int (0 : Int32)), (.int (0 : Int32)), (.int (0 : Int32)), (.int (0 : Int32)), (.int (0 : Int32)), (.int (0 : Int32)), (.int (0 : Int32)), (.int (0 : Int32)), (.int (0 : Int32)), (.int (0 : Int32)), (.int (0 : Int32)), (.int (0 : Int32)), (.int (0 : Int32)), (.int (0 : Int32)), (.int (0 : Int32)), (.int (0 : Int32))] (.int (0 : Int32)) := (Arv.new A114 (by decide)).pad (pad_rep [] (.int (0 : Int32)) 27)
        show Fin _ _ _ _ _ _ _ _ T114 (mkF m 444 #[vi p0, vi p1, vi p2, vi p3, vi x1, vi x2, vi x3, vi (p3 &&& (3 : Int32)), vr a107, .unset, .unset, .unset, .unset] [(.ref a114), (.ref a113), (.ref a113)])
        have V115 := fillI (L := (tE [x1, x2, x3])) V114 rfl
        have KK115 := Keep.refl h114 ([a114] : List Addr)
        refine .go (fun _ k => XS.dup X114.here hx rfl (hb hby at_444) rfl rfl k) ?_
        refine .go (fun _ k => XS.iconst X114.here hx rfl (hb hby at_445) k) ?_
        refine .go (fun _ k => XS.bipush X114.here hx rfl (hb hby at_446) k) ?_
        obtain ⟨cz116, B116, q116, S116, M116, H116, G116⟩ := id V115
        obtain ⟨T116, h116, X116, e116, W116, st116⟩ := stC X114 hx hZ e114 B116 (j := (0 : Int32)) (inb_of S116 ⟨(by decide), (by decide)⟩) (g := (mkF m 448 #[vi p0, vi p1, vi p2, vi p3, vi x1, vi x2, vi x3, vi (p3 &&& (3 : Int32)), vr a107, .unset, .unset, .unset, .unset] [(.int (84 : Int32)), (.int (0 : Int32)), (.ref a114), (.ref a114), (.ref a113), (.ref a113)])) rfl rfl (hb hby at_448)
        refine Fin.go st116 ?_
        have V116 := fillV (L := (tE [x1, x2, x3])) (i := 0) (Arv.set B116 q116 S116 M116 H116 G116 (fits_nar_char _) W116 0 rfl (fillLt (show 0 < 27 from by decide))) (show nar .char (84 : Int32) = (84 : Int32) from by decide) (show 0 < 27 from by decide)
        have KK116 := KK115.wr W116 (Or.inl (List.mem_of_getElem? (i := 0) rfl))
        have N116 := Fr.snoc X116 N112 n114
        have O116 := O114.wr W116 n114
        have hk116 := Nat.le_trans hk114 (Keep.of_wr W116).1
        have RR116 := RR114.trans (CHr.wr W116 (Safe.arv hZ.alike V115 (by decide)) RR114.1)
        show Fin _ _ _ _ _ _ _ _ T116 (mkF m 449 #[vi p0, vi p1, vi p2, vi p3, vi x1, vi x2, vi x3, vi (p3 &&& (3 : Int32)), vr a107, .unset, .unset, .unset, .unset] [(.ref a114), (.ref a113), (.ref a113)])
        refine .go (fun _ k => XS.dup X116.here hx rfl (hb hby at_449) rfl rfl k) ?_
        refine .go (fun _ k => XS.iconst X116.here hx rfl (hb hby at_450) k) ?_
        refine .go (fun _ k => XS.bipush X116.here hx rfl (hb hby at_451) k) ?_
        obtain ⟨cz117, B117, q117, S117, M117, H117, G117⟩ := id V116
        obtain ⟨T117, h117, X117, e117, W117, st117⟩ := stC X116 hx hZ e116 B117 (j := (1 : Int32)) (inb_of S117 ⟨(by decide), (by decide)⟩) (g := (mkF m 453 #[vi p0, vi p1, vi p2, vi p3, vi x1, vi x2, vi x3, vi (p3 &&& (3 : Int32)), vr a107, .unset, .unset, .unset, .unset] [(.int (104 : Int32)), (.int (1 : Int32)), (.ref a114), (.ref a114), (.ref a113), (.ref a113)])) rfl rfl (hb hby at_453)
        refine Fin.go st117 ?_
        have V117 := fillV (L := (tE [x1, x2, x3])) (i := 1) (Arv.set B117 q117 S117 M117 H117 G117 (fits_nar_char _) W117 1 rfl (fillLt (show 1 < 27 from by decide))) (show nar .char (104 : Int32) = (104 : Int32) from by decide) (show 1 < 27 from by decide)
        have KK117 := KK116.wr W117 (Or.inl (List.mem_of_getElem? (i := 0) rfl))
        have N117 := Fr.snoc X117 N116 n114
        have O117 := O116.wr W117 n114
        have hk117 := Nat.le_trans hk116 (Keep.of_wr W117).1
        have RR117 := RR116.trans (CHr.wr W117 (Safe.arv hZ.alike V116 (by decide)) RR116.1)
        show Fin _ _ _ _ _ _ _ _ T117 (mkF m 454 #[vi p0, vi p1, vi p2, vi p3, vi x1, vi x2, vi x3, vi (p3 &&& (3 : Int32)), vr a107, .unset, .unset, .unset, .unset] [(.ref a114), (.ref a113), (.ref a113)])
        refine .go (fun _ k => XS.dup X117.here hx rfl (hb hby at_454) rfl rfl k) ?_
        refine .go (fun _ k => XS.iconst X117.here hx rfl (hb hby at_455) k) ?_
        refine .go (fun _ k => XS.bipush X117.here hx rfl (hb hby at_456) k) ?_
        obtain ⟨cz118, B118, q118, S118, M118, H118, G118⟩ := id V117
        obtain ⟨T118, h118, X118, e118, W118, st118⟩ := stC X117 hx hZ e117 B118 (j := (2 : Int32)) (inb_of S118 ⟨(by decide), (by decide)⟩) (g := (mkF m 458 #[vi p0, vi p1, vi p2, vi p3, vi x1, vi x2, vi x3, vi (p3 &&& (3 : Int32)), vr a107, .unset, .unset, .unset, .unset] [(.int (105 : Int32)), (.int (2 : Int32)), (.ref a114), (.ref a114), (.ref a113), (.ref a113)])) rfl rfl (hb hby at_458)
        refine Fin.go st118 ?_
        have V118 := fillV (L := (tE [x1, x2, x3])) (i := 2) (Arv.set B118 q118 S118 M118 H118 G118 (fits_nar_char _) W118 2 rfl (fillLt (show 2 < 27 from by decide))) (show nar .char (105 : Int32) = (105 : Int32) from by decide) (show 2 < 27 from by decide)
        have KK118 := KK117.wr W118 (Or.inl (List.mem_of_getElem? (i := 0) rfl))
        have N118 := Fr.snoc X118 N117 n114
        have O118 := O117.wr W118 n114
        have hk118 := Nat.le_trans hk117 (Keep.of_wr W118).1
        have RR118 := RR117.trans (CHr.wr W118 (Safe.arv hZ.alike V117 (by decide)) RR117.1)
        show Fin _ _ _ _ _ _ _ _ T118 (mkF m 459 #[vi p0, vi p1, vi p2, vi p3, vi x1, vi x2, vi x3, vi (p3 &&& (3 : Int32)), vr a107, .unset, .unset, .unset, .unset] [(.ref a114), (.ref a113), (.ref a113)])
        refine .go (fun _ k => XS.dup X118.here hx rfl (hb hby at_459) rfl rfl k) ?_
        refine .go (fun _ k => XS.iconst X118.here hx rfl (hb hby at_460) k) ?_
        refine .go (fun _ k => XS.bipush X118.here hx rfl (hb hby at_461) k) ?_
        obtain ⟨cz119, B119, q119, S119, M119, H119, G119⟩ := id V118
        obtain ⟨T119, h119, X119, e119, W119, st119⟩ := stC X118 hx hZ e118 B119 (j := (3 : Int32)) (inb_of S119 ⟨(by decide), (by decide)⟩) (g := (mkF m 463 #[vi p0, vi p1, vi p2, vi p3, vi x1, vi x2, vi x3, vi (p3 &&& (3 : Int32)), vr a107, .unset, .unset, .unset, .unset] [(.int (115 : Int32)), (.int (3 : Int32)), (.ref a114), (.ref a114), (.ref a113), (.ref a113)])) rfl rfl (hb hby at_463)
        refine Fin.go st119 ?_
        have V119 := fillV (L := (tE [x1, x2, x3])) (i := 3) (Arv.set B119 q119 S119 M119 H119 G119 (fits_nar_char _) W119 3 rfl (fillLt (show 3 < 27 from by decide))) (show nar .char (115 : Int32) = (115 : Int32) from by decide) (show 3 < 27 from by decide)
        have KK119 := KK118.wr W119 (Or.inl (List.mem_of_getElem? (i := 0) rfl))
        have N119 := Fr.snoc X119 N118 n114
        have O119 := O118.wr W119 n114
        have hk119 := Nat.le_trans hk118 (Keep.of_wr W119).1
        have RR119 := RR118.trans (CHr.wr W119 (Safe.arv hZ.alike V118 (by decide)) RR118.1)
        show Fin _ _ _ _ _ _ _ _ T119 (mkF m 464 #[vi p0, vi p1, vi p2, vi p3, vi x1, vi x2, vi x3, vi (p3 &&& (3 : Int32)), vr a107, .unset, .unset, .unset, .unset] [(.ref a114), (.ref a113), (.ref a113)])
        refine .go (fun _ k => XS.dup X119.here hx rfl (hb hby at_464) rfl rfl k) ?_
        refine .go (fun _ k => XS.iconst X119.here hx rfl (hb hby at_465) k) ?_
        refine .go (fun _ k => XS.bipush X119.here hx rfl (hb hby at_466) k) ?_
        obtain ⟨cz120, B120, q120, S120, M120, H120, G120⟩ := id V119
        obtain ⟨T120, h120, X120, e120, W120, st120⟩ := stC X119 hx hZ e119 B120 (j := (4 : Int32)) (inb_of S120 ⟨(by decide), (by decide)⟩) (g := (mkF m 468 #[vi p0, vi p1, vi p2, vi p3, vi x1, vi x2, vi x3, vi (p3 &&& (3 : Int32)), vr a107, .unset, .unset, .unset, .unset] [(.int (32 : Int32)), (.int (4 : Int32)), (.ref a114), (.ref a114), (.ref a113), (.ref a113)])) rfl rfl (hb hby at_468)
        refine Fin.go st120 ?_
        have V120 := fillV (L := (tE [x1, x2, x3])) (i := 4) (Arv.set B120 q120 S120 M120 H120 G120 (fits_nar_char _) W120 4 rfl (fillLt (show 4 < 27 from by decide))) (show nar .char (32 : Int32) = (32 : Int32) from by decide) (show 4 < 27 from by decide)
        have KK120 := KK119.wr W120 (Or.inl (List.mem_of_getElem? (i := 0) rfl))
        have N120 := Fr.snoc X120 N119 n114
        have O120 := O119.wr W120 n114
        have hk120 := Nat.le_trans hk119 (Keep.of_wr W120).1
        have RR120 := RR119.trans (CHr.wr W120 (Safe.arv hZ.alike V119 (by decide)) RR119.1)
        show Fin _ _ _ _ _ _ _ _ T120 (mkF m 469 #[vi p0, vi p1, vi p2, vi p3, vi x1, vi x2, vi x3, vi (p3 &&& (3 : Int32)), vr a107, .unset, .unset, .unset, .unset] [(.ref a114), (.ref a113), (.ref a113)])
        refine .go (fun _ k => XS.dup X120.here hx rfl (hb hby at_469) rfl rfl k) ?_
        refine .go (fun _ k => XS.iconst X120.here hx rfl (hb hby at_470) k) ?_
        refine .go (fun _ k => XS.bipush X120.here hx rfl (hb hby at_471) k) ?_
        obtain ⟨cz121, B121, q121, S121, M121, H121, G121⟩ := id V120
        obtain ⟨T121, h121, X121, e121, W121, st121⟩ := stC X120 hx hZ e120 B121 (j := (5 : Int32)) (inb_of S121 ⟨(by decide), (by decide)⟩) (g := (mkF m 473 #[vi p0, vi p1, vi p2, vi p3, vi x1, vi x2, vi x3, vi (p3 &&& (3 : Int32)), vr a107, .unset, .unset, .unset, .unset] [(.int (112 : Int32)), (.int (5 : Int32)), (.ref a114), (.ref a114), (.ref a113), (.ref a113)])) rfl rfl (hb hby at_473)
        refine Fin.go st121 ?_
        have V121 := fillV (L := (tE [x1, x2, x3])) (i := 5) (Arv.set B121 q121 S121 M121 H121 G121 (fits_nar_char _) W121 5 rfl (fillLt (show 5 < 27 from by decide))) (show nar .char (112 : Int32) = (112 : Int32) from by decide) (show 5 < 27 from by decide)
        have KK121 := KK120.wr W121 (Or.inl (List.mem_of_getElem? (i := 0) rfl))
        have N121 := Fr.snoc X121 N120 n114
        have O121 := O120.wr W121 n114
        have hk121 := Nat.le_trans hk120 (Keep.of_wr W121).1
        have RR121 := RR120.trans (CHr.wr W121 (Safe.arv hZ.alike V120 (by decide)) RR120.1)
        show Fin _ _ _ _ _ _ _ _ T121 (mkF m 474 #[vi p0, vi p1, vi p2, vi p3, vi x1, vi x2, vi x3, vi (p3 &&& (3 : Int32)), vr a107, .unset, .unset, .unset, .unset] [(.ref a114), (.ref a113), (.ref a113)])
        refine .go (fun _ k => XS.dup X121.here hx rfl (hb hby at_474) rfl rfl k) ?_
        refine .go (fun _ k => XS.bipush X121.here hx rfl (hb hby at_475) k) ?_
        refine .go (fun _ k => XS.bipush X121.here hx rfl (hb hby at_477) k) ?_
        obtain ⟨cz122, B122, q122, S122, M122, H122, G122⟩ := id V121
        obtain ⟨T122, h122, X122, e122, W122, st122⟩ := stC X121 hx hZ e121 B122 (j := (6 : Int32)) (inb_of S122 ⟨(by decide), (by decide)⟩) (g := (mkF m 479 #[vi p0, vi p1, vi p2, vi p3, vi x1, vi x2, vi x3, vi (p3 &&& (3 : Int32)), vr a107, .unset, .unset, .unset, .unset] [(.int (97 : Int32)), (.int (6 : Int32)), (.ref a114), (.ref a114), (.ref a113), (.ref a113)])) rfl rfl (hb hby at_479)
        refine Fin.go st122 ?_
        have V122 := fillV (L := (tE [x1, x2, x3])) (i := 6) (Arv.set B122 q122 S122 M122 H122 G122 (fits_nar_char _) W122 6 rfl (fillLt (show 6 < 27 from by decide))) (show nar .char (97 : Int32) = (97 : Int32) from by decide) (show 6 < 27 from by decide)
        have KK122 := KK121.wr W122 (Or.inl (List.mem_of_getElem? (i := 0) rfl))
        have N122 := Fr.snoc X122 N121 n114
        have O122 := O121.wr W122 n114
        have hk122 := Nat.le_trans hk121 (Keep.of_wr W122).1
        have RR122 := RR121.trans (CHr.wr W122 (Safe.arv hZ.alike V121 (by decide)) RR121.1)
        show Fin _ _ _ _ _ _ _ _ T122 (mkF m 480 #[vi p0, vi p1, vi p2, vi p3, vi x1, vi x2, vi x3, vi (p3 &&& (3 : Int32)), vr a107, .unset, .unset, .unset, .unset] [(.ref a114), (.ref a113), (.ref a113)])
        refine .go (fun _ k => XS.dup X122.here hx rfl (hb hby at_480) rfl rfl k) ?_
        refine .go (fun _ k => XS.bipush X122.here hx rfl (hb hby at_481) k) ?_
        refine .go (fun _ k => XS.bipush X122.here hx rfl (hb hby at_483) k) ?_
        obtain ⟨cz123, B123, q123, S123, M123, H123, G123⟩ := id V122
        obtain ⟨T123, h123, X123, e123, W123, st123⟩ := stC X122 hx hZ e122 B123 (j := (7 : Int32)) (inb_of S123 ⟨(by decide), (by decide)⟩) (g := (mkF m 485 #[vi p0, vi p1, vi p2, vi p3, vi x1, vi x2, vi x3, vi (p3 &&& (3 : Int32)), vr a107, .unset, .unset, .unset, .unset] [(.int (116 : Int32)), (.int (7 : Int32)), (.ref a114), (.ref a114), (.ref a113), (.ref a113)])) rfl rfl (hb hby at_485)
        refine Fin.go st123 ?_
        have V123 := fillV (L := (tE [x1, x2, x3])) (i := 7) (Arv.set B123 q123 S123 M123 H123 G123 (fits_nar_char _) W123 7 rfl (fillLt (show 7 < 27 from by decide))) (show nar .char (116 : Int32) = (116 : Int32) from by decide) (show 7 < 27 from by decide)
        have KK123 := KK122.wr W123 (Or.inl (List.mem_of_getElem? (i := 0) rfl))
        have N123 := Fr.snoc X123 N122 n114
        have O123 := O122.wr W123 n114
        have hk123 := Nat.le_trans hk122 (Keep.of_wr W123).1
        have RR123 := RR122.trans (CHr.wr W123 (Safe.arv hZ.alike V122 (by decide)) RR122.1)
        show Fin _ _ _ _ _ _ _ _ T123 (mkF m 486 #[vi p0, vi p1, vi p2, vi p3, vi x1, vi x2, vi x3, vi (p3 &&& (3 : Int32)), vr a107, .unset, .unset, .unset, .unset] [(.ref a114), (.ref a113), (.ref a113)])
        refine .go (fun _ k => XS.dup X123.here hx rfl (hb hby at_486) rfl rfl k) ?_
        refine .go (fun _ k => XS.bipush X123.here hx rfl (hb hby at_487) k) ?_
        refine .go (fun _ k => XS.bipush X123.here hx rfl (hb hby at_489) k) ?_
        obtain ⟨cz124, B124, q124, S124, M124, H124, G124⟩ := id V123
        obtain ⟨T124, h124, X124, e124, W124, st124⟩ := stC X123 hx hZ e123 B124 (j := (8 : Int32)) (inb_of S124 ⟨(by decide), (by decide)⟩) (g := (mkF m 491 #[vi p0, vi p1, vi p2, vi p3, vi x1, vi x2, vi x3, vi (p3 &&& (3 : Int32)), vr a107, .unset, .unset, .unset, .unset] [(.int (104 : Int32)), (.int (8 : Int32)), (.ref a114), (.ref a114), (.ref a113), (.ref a113)])) rfl rfl (hb hby at_491)
        refine Fin.go st124 ?_
        have V124 := fillV (L := (tE [x1, x2, x3])) (i := 8) (Arv.set B124 q124 S124 M124 H124 G124 (fits_nar_char _) W124 8 rfl (fillLt (show 8 < 27 from by decide))) (show nar .char (104 : Int32) = (104 : Int32) from by decide) (show 8 < 27 from by decide)
        have KK124 := KK123.wr W124 (Or.inl (List.mem_of_getElem? (i := 0) rfl))
        have N124 := Fr.snoc X124 N123 n114
        have O124 := O123.wr W124 n114
        have hk124 := Nat.le_trans hk123 (Keep.of_wr W124).1
        have RR124 := RR123.trans (CHr.wr W124 (Safe.arv hZ.alike V123 (by decide)) RR123.1)
        show Fin _ _ _ _ _ _ _ _ T124 (mkF m 492 #[vi p0, vi p1, vi p2, vi p3, vi x1, vi x2, vi x3, vi (p3 &&& (3 : Int32)), vr a107, .unset, .unset, .unset, .unset] [(.ref a114), (.ref a113), (.ref a113)])
        refine .go (fun _ k => XS.dup X124.here hx rfl (hb hby at_492) rfl rfl k) ?_
        refine .go (fun _ k => XS.bipush X124.here hx rfl (hb hby at_493) k) ?_
        refine .go (fun _ k => XS.bipush X124.here hx rfl (hb hby at_495) k) ?_
        obtain ⟨cz125, B125, q125, S125, M125, H125, G125⟩ := id V124
        obtain ⟨T125, h125, X125, e125, W125, st125⟩ := stC X124 hx hZ e124 B125 (j := (9 : Int32)) (inb_of S125 ⟨(by decide), (by decide)⟩) (g := (mkF m 497 #[vi p0, vi p1, vi p2, vi p3, vi x1, vi x2, vi x3, vi (p3 &&& (3 : Int32)), vr a107, .unset, .unset, .unset, .unset] [(.int (32 : Int32)), (.int (9 : Int32)), (.ref a114), (.ref a114), (.ref a113), (.ref a113)])) rfl rfl (hb hby at_497)
        refine Fin.go st125 ?_
        have V125 := fillV (L := (tE [x1, x2, x3])) (i := 9) (Arv.set B125 q125 S125 M125 H125 G125 (fits_nar_char _) W125 9 rfl (fillLt (show 9 < 27 from by decide))) (show nar .char (32 : Int32) = (32 : Int32) from by decide) (show 9 < 27 from by decide)
        have KK125 := KK124.wr W125 (Or.inl (List.mem_of_getElem? (i := 0) rfl))
        have N125 := Fr.snoc X125 N124 n114
        have O125 := O124.wr W125 n114
        have hk125 := Nat.le_trans hk124 (Keep.of_wr W125).1
        have RR125 := RR124.trans (CHr.wr W125 (Safe.arv hZ.alike V124 (by decide)) RR124.1)
        show Fin _ _ _ _ _ _ _ _ T125 (mkF m 498 #[vi p0, vi p1, vi p2, vi p3, vi x1, vi x2, vi x3, vi (p3 &&& (3 : Int32)), vr a107, .unset, .unset, .unset, .unset] [(.ref a114), (.ref a113), (.ref a113)])
        refine .go (fun _ k => XS.dup X125.here hx rfl (hb hby at_498) rfl rfl k) ?_
        refine .go (fun _ k => XS.bipush X125.here hx rfl (hb hby at_499) k) ?_
        refine .go (fun _ k => XS.bipush X125.here hx rfl (hb hby at_501) k) ?_
        obtain ⟨cz126, B126, q126, S126, M126, H126, G126⟩ := id V125
        obtain ⟨T126, h126, X126, e126, W126, st126⟩ := stC X125 hx hZ e125 B126 (j := (10 : Int32)) (inb_of S126 ⟨(by decide), (by decide)⟩) (g := (mkF m 503 #[vi p0, vi p1, vi p2, vi p3, vi x1, vi x2, vi x3, vi (p3 &&& (3 : Int32)), vr a107, .unset, .unset, .unset, .unset] [(.int (97 : Int32)), (.int (10 : Int32)), (.ref a114), (.ref a114), (.ref a113), (.ref a113)])) rfl rfl (hb hby at_503)
        refine Fin.go st126 ?_
        have V126 := fillV (L := (tE [x1, x2, x3])) (i := 10) (Arv.set B126 q126 S126 M126 H126 G126 (fits_nar_char _) W126 10 rfl (fillLt (show 10 < 27 from by decide))) (show nar .char (97 : Int32) = (97 : Int32) from by decide) (show 10 < 27 from by decide)
        have KK126 := KK125.wr W126 (Or.inl (List.mem_of_getElem? (i := 0) rfl))
        have N126 := Fr.snoc X126 N125 n114
        have O126 := O125.wr W126 n114
        have hk126 := Nat.le_trans hk125 (Keep.of_wr W126).1
        have RR126 := RR125.trans (CHr.wr W126 (Safe.arv hZ.alike V125 (by decide)) RR125.1)
        show Fin _ _ _ _ _ _ _ _ T126 (mkF m 504 #[vi p0, vi p1, vi p2, vi p3, vi x1, vi x2, vi x3, vi (p3 &&& (3 : Int32)), vr a107, .unset, .unset, .unset, .unset] [(.ref a114), (.ref a113), (.ref a113)])
        refine .go (fun _ k => XS.dup X126.here hx rfl (hb hby at_504) rfl rfl k) ?_
        refine .go (fun _ k => XS.bipush X126.here hx rfl (hb hby at_505) k) ?_
        refine .go (fun _ k => XS.bipush X126.here hx rfl (hb hby at_507) k) ?_
        obtain ⟨cz127, B127, q127, S127, M127, H127, G127⟩ := id V126
        obtain ⟨T127, h127, X127, e127, W127, st127⟩ := stC X126 hx hZ e126 B127 (j := (11 : Int32)) (inb_of S127 ⟨(by decide), (by decide)⟩) (g := (mkF m 509 #[vi p0, vi p1, vi p2, vi p3, vi x1, vi x2, vi x3, vi (p3 &&& (3 : Int32)), vr a107, .unset, .unset, .unset, .unset] [(.int (110 : Int32)), (.int (11 : Int32)), (.ref a114), (.ref a114), (.ref a113), (.ref a113)])) rfl rfl (hb hby at_509)
        refine Fin.go st127 ?_
        have V127 := fillV (L := (tE [x1, x2, x3])) (i := 11) (Arv.set B127 q127 S127 M127 H127 G127 (fits_nar_char _) W127 11 rfl (fillLt (show 11 < 27 from by decide))) (show nar .char (110 : Int32) = (110 : Int32) from by decide) (show 11 < 27 from by decide)
        have KK127 := KK126.wr W127 (Or.inl (List.mem_of_getElem? (i := 0) rfl))
        have N127 := Fr.snoc X127 N126 n114
        have O127 := O126.wr W127 n114
        have hk127 := Nat.le_trans hk126 (Keep.of_wr W127).1
        have RR127 := RR126.trans (CHr.wr W127 (Safe.arv hZ.alike V126 (by decide)) RR126.1)
        show Fin _ _ _ _ _ _ _ _ T127 (mkF m 510 #[vi p0, vi p1, vi p2, vi p3, vi x1, vi x2, vi x3, vi (p3 &&& (3 : Int32)), vr a107, .unset, .unset, .unset, .unset] [(.ref a114), (.ref a113), (.ref a113)])
        refine .go (fun _ k => XS.dup X127.here hx rfl (hb hby at_510) rfl rfl k) ?_
        refine .go (fun _ k => XS.bipush X127.here hx rfl (hb hby at_511) k) ?_
        refine .go (fun _ k => XS.bipush X127.here hx rfl (hb hby at_513) k) ?_
        obtain ⟨cz128, B128, q128, S128, M128, H128, G128⟩ := id V127
        obtain ⟨T128, h128, X128, e128, W128, st128⟩ := stC X127 hx hZ e127 B128 (j := (12 : Int32)) (inb_of S128 ⟨(by decide), (by decide)⟩) (g := (mkF m 515 #[vi p0, vi p1, vi p2, vi p3, vi x1, vi x2, vi x3, vi (p3 &&& (3 : Int32)), vr a107, .unset, .unset, .unset, .unset] [(.int (115 : Int32)), (.int (12 : Int32)), (.ref a114), (.ref a114), (.ref a113), (.ref a113)])) rfl rfl (hb hby at_515)
        refine Fin.go st128 ?_
        have V128 := fillV (L := (tE [x1, x2, x3])) (i := 12) (Arv.set B128 q128 S128 M128 H128 G128 (fits_nar_char _) W128 12 rfl (fillLt (show 12 < 27 from by decide))) (show nar .char (115 : Int32) = (115 : Int32) from by decide) (show 12 < 27 from by decide)
        have KK128 := KK127.wr W128 (Or.inl (List.mem_of_getElem? (i := 0) rfl))
        have N128 := Fr.snoc X128 N127 n114
        have O128 := O127.wr W128 n114
        have hk128 := Nat.le_trans hk127 (Keep.of_wr W128).1
        have RR128 := RR127.trans (CHr.wr W128 (Safe.arv hZ.alike V127 (by decide)) RR127.1)
        show Fin _ _ _ _ _ _ _ _ T128 (mkF m 516 #[vi p0, vi p1, vi p2, vi p3, vi x1, vi x2, vi x3, vi (p3 &&& (3 : Int32)), vr a107, .unset, .unset, .unset, .unset] [(.ref a114), (.ref a113), (.ref a113)])
        refine .go (fun _ k => XS.dup X128.here hx rfl (hb hby at_516) rfl rfl k) ?_
        refine .go (fun _ k => XS.bipush X128.here hx rfl (hb hby at_517) k) ?_
        refine .go (fun _ k => XS.bipush X128.here hx rfl (hb hby at_519) k) ?_
        obtain ⟨cz129, B129, q129, S129, M129, H129, G129⟩ := id V128
        obtain ⟨T129, h129, X129, e129, W129, st129⟩ := stC X128 hx hZ e128 B129 (j := (13 : Int32)) (inb_of S129 ⟨(by decide), (by decide)⟩) (g := (mkF m 521 #[vi p0, vi p1, vi p2, vi p3, vi x1, vi x2, vi x3, vi (p3 &&& (3 : Int32)), vr a107, .unset, .unset, .unset, .unset] [(.int (119 : Int32)), (.int (13 : Int32)), (.ref a114), (.ref a114), (.ref a113), (.ref a113)])) rfl rfl (hb hby at_521)
        refine Fin.go st129 ?_
        have V129 := fillV (L := (tE [x1, x2, x3])) (i := 13) (Arv.set B129 q129 S129 M129 H129 G129 (fits_nar_char _) W129 13 rfl (fillLt (show 13 < 27 from by decide))) (show nar .char (119 : Int32) = (119 : Int32) from by decide) (show 13 < 27 from by decide)
        have KK129 := KK128.wr W129 (Or.inl (List.mem_of_getElem? (i := 0) rfl))
        have N129 := Fr.snoc X129 N128 n114
        have O129 := O128.wr W129 n114
        have hk129 := Nat.le_trans hk128 (Keep.of_wr W129).1
        have RR129 := RR128.trans (CHr.wr W129 (Safe.arv hZ.alike V128 (by decide)) RR128.1)
        show Fin _ _ _ _ _ _ _ _ T129 (mkF m 522 #[vi p0, vi p1, vi p2, vi p3, vi x1, vi x2, vi x3, vi (p3 &&& (3 : Int32)), vr a107, .unset, .unset, .unset, .unset] [(.ref a114), (.ref a113), (.ref a113)])
        refine .go (fun _ k => XS.dup X129.here hx rfl (hb hby at_522) rfl rfl k) ?_
        refine .go (fun _ k => XS.bipush X129.here hx rfl (hb hby at_523) k) ?_
        refine .go (fun _ k => XS.bipush X129.here hx rfl (hb hby at_525) k) ?_
        obtain ⟨cz130, B130, q130, S130, M130, H130, G130⟩ := id V129
        obtain ⟨T130, h130, X130, e130, W130, st130⟩ := stC X129 hx hZ e129 B130 (j := (14 : Int32)) (inb_of S130 ⟨(by decide), (by decide)⟩) (g := (mkF m 527 #[vi p0, vi p1, vi p2, vi p3, vi x1, vi x2, vi x3, vi (p3 &&& (3 : Int32)), vr a107, .unset, .unset, .unset, .unset] [(.int (101 : Int32)), (.int (14 : Int32)), (.ref a114), (.ref a114), (.ref a113), (.ref a113)])) rfl rfl (hb hby at_527)
        refine Fin.go st130 ?_
        have V130 := fillV (L := (tE [x1, x2, x3])) (i := 14) (Arv.set B130 q130 S130 M130 H130 G130 (fits_nar_char _) W130 14 rfl (fillLt (show 14 < 27 from by decide))) (show nar .char (101 : Int32) = (101 : Int32) from by decide) (show 14 < 27 from by decide)
        have KK130 := KK129.wr W130 (Or.inl (List.mem_of_getElem? (i := 0) rfl))
        have N130 := Fr.snoc X130 N129 n114
        have O130 := O129.wr W130 n114
        have hk130 := Nat.le_trans hk129 (Keep.of_wr W130).1
        have RR130 := RR129.trans (CHr.wr W130 (Safe.arv hZ.alike V129 (by decide)) RR129.1)
        show Fin _ _ _ _ _ _ _ _ T130 (mkF m 528 #[vi p0, vi p1, vi p2, vi p3, vi x1, vi x2, vi x3, vi (p3 &&& (3 : Int32)), vr a107, .unset, .unset, .unset, .unset] [(.ref a114), (.ref a113), (.ref a113)])
        refine .go (fun _ k => XS.dup X130.here hx rfl (hb hby at_528) rfl rfl k) ?_
        refine .go (fun _ k => XS.bipush X130.here hx rfl (hb hby at_529) k) ?_
        refine .go (fun _ k => XS.bipush X130.here hx rfl (hb hby at_531) k) ?_
        obtain ⟨cz131, B131, q131, S131, M131, H131, G131⟩ := id V130
        obtain ⟨T131, h131, X131, e131, W131, st131⟩ := stC X130 hx hZ e130 B131 (j := (15 : Int32)) (inb_of S131 ⟨(by decide), (by decide)⟩) (g := (mkF m 533 #[vi p0, vi p1, vi p2, vi p3, vi x1, vi x2, vi x3, vi (p3 &&& (3 : Int32)), vr a107, .unset, .unset, .unset, .unset] [(.int (114 : Int32)), (.int (15 : Int32)), (.ref a114), (.ref a114), (.ref a113), (.ref a113)])) rfl rfl (hb hby at_533)
        refine Fin.go st131 ?_
        have V131 := fillV (L := (tE [x1, x2, x3])) (i := 15) (Arv.set B131 q131 S131 M131 H131 G131 (fits_nar_char _) W131 15 rfl (fillLt (show 15 < 27 from by decide))) (show nar .char (114 : Int32) = (114 : Int32) from by decide) (show 15 < 27 from by decide)
        have KK131 := KK130.wr W131 (Or.inl (List.mem_of_getElem? (i := 0) rfl))
        have N131 := Fr.snoc X131 N130 n114
        have O131 := O130.wr W131 n114
        have hk131 := Nat.le_trans hk130 (Keep.of_wr W131).1
        have RR131 := RR130.trans (CHr.wr W131 (Safe.arv hZ.alike V130 (by decide)) RR130.1)
        show Fin _ _ _ _ _ _ _ _ T131 (mkF m 534 #[vi p0, vi p1, vi p2, vi p3, vi x1, vi x2, vi x3, vi (p3 &&& (3 : Int32)), vr a107, .unset, .unset, .unset, .unset] [(.ref a114), (.ref a113), (.ref a113)])
        refine .go (fun _ k => XS.dup X131.here hx rfl (hb hby at_534) rfl rfl k) ?_
        refine .go (fun _ k => XS.bipush X131.here hx rfl (hb hby at_535) k) ?_
        refine .go (fun _ k => XS.bipush X131.here hx rfl (hb hby at_537) k) ?_
        obtain ⟨cz132, B132, q132, S132, M132, H132, G132⟩ := id V131
        obtain ⟨T132, h132, X132, e132, W132, st132⟩ := stC X131 hx hZ e131 B132 (j := (16 : Int32)) (inb_of S132 ⟨(by decide), (by decide)⟩) (g := (mkF m 539 #[vi p0, vi p1, vi p2, vi p3, vi x1, vi x2, vi x3, vi (p3 &&& (3 : Int32)), vr a107, .unset, .unset, .unset, .unset] [(.int (115 : Int32)), (.int (16 : Int32)), (.ref a114), (.ref a114), (.ref a113), (.ref a113)])) rfl rfl (hb hby at_539)
        refine Fin.go st132 ?_
        have V132 := fillV (L := (tE [x1, x2, x3])) (i := 16) (Arv.set B132 q132 S132 M132 H132 G132 (fits_nar_char _) W132 16 rfl (fillLt (show 16 < 27 from by decide))) (show nar .char (115 : Int32) = (115 : Int32) from by decide) (show 16 < 27 from by decide)
        have KK132 := KK131.wr W132 (Or.inl (List.mem_of_getElem? (i := 0) rfl))
        have N132 := Fr.snoc X132 N131 n114
        have O132 := O131.wr W132 n114
        have hk132 := Nat.le_trans hk131 (Keep.of_wr W132).1
        have RR132 := RR131.trans (CHr.wr W132 (Safe.arv hZ.alike V131 (by decide)) RR131.1)
        show Fin _ _ _ _ _ _ _ _ T132 (mkF m 540 #[vi p0, vi p1, vi p2, vi p3, vi x1, vi x2, vi x3, vi (p3 &&& (3 : Int32)), vr a107, .unset, .unset, .unset, .unset] [(.ref a114), (.ref a113), (.ref a113)])
        refine .go (fun _ k => XS.dup X132.here hx rfl (hb hby at_540) rfl rfl k) ?_
        refine .go (fun _ k => XS.bipush X132.here hx rfl (hb hby at_541) k) ?_
        refine .go (fun _ k => XS.bipush X132.here hx rfl (hb hby at_543) k) ?_
        obtain ⟨cz133, B133, q133, S133, M133, H133, G133⟩ := id V132
        obtain ⟨T133, h133, X133, e133, W133, st133⟩ := stC X132 hx hZ e132 B133 (j := (17 : Int32)) (inb_of S133 ⟨(by decide), (by decide)⟩) (g := (mkF m 545 #[vi p0, vi p1, vi p2, vi p3, vi x1, vi x2, vi x3, vi (p3 &&& (3 : Int32)), vr a107, .unset, .unset, .unset, .unset] [(.int (32 : Int32)), (.int (17 : Int32)), (.ref a114), (.ref a114), (.ref a113), (.ref a113)])) rfl rfl (hb hby at_545)
        refine Fin.go st133 ?_
        have V133 := fillV (L := (tE [x1, x2, x3])) (i := 17) (Arv.set B133 q133 S133 M133 H133 G133 (fits_nar_char _) W133 17 rfl (fillLt (show 17 < 27 from by decide))) (show nar .char (32 : Int32) = (32 : Int32) from by decide) (show 17 < 27 from by decide)
        have KK133 := KK132.wr W133 (Or.inl (List.mem_of_getElem? (i := 0) rfl))
        have N133 := Fr.snoc X133 N132 n114
        have O133 := O132.wr W133 n114
        have hk133 := Nat.le_trans hk132 (Keep.of_wr W133).1
        have RR133 := RR132.trans (CHr.wr W133 (Safe.arv hZ.alike V132 (by decide)) RR132.1)
        show Fin _ _ _ _ _ _ _ _ T133 (mkF m 546 #[vi p0, vi p1, vi p2, vi p3, vi x1, vi x2, vi x3, vi (p3 &&& (3 : Int32)), vr a107, .unset, .unset, .unset, .unset] [(.ref a114), (.ref a113), (.ref a113)])
        refine .go (fun _ k => XS.dup X133.here hx rfl (hb hby at_546) rfl rfl k) ?_
        refine .go (fun _ k => XS.bipush X133.here hx rfl (hb hby at_547) k) ?_
        refine .go (fun _ k => XS.iload X133.here hx rfl (hb hby at_549) rfl k) ?_
        obtain ⟨cz134, B134, q134, S134, M134, H134, G134⟩ := id V133
        obtain ⟨T134, h134, X134, e134, W134, st134⟩ := stC X133 hx hZ e133 B134 (j := (18 : Int32)) (inb_of S134 ⟨(by decide), (by decide)⟩) (g := (mkF m 551 #[vi p0, vi p1, vi p2, vi p3, vi x1, vi x2, vi x3, vi (p3 &&& (3 : Int32)), vr a107, .unset, .unset, .unset, .unset] [(.int x1), (.int (18 : Int32)), (.ref a114), (.ref a114), (.ref a113), (.ref a113)])) rfl rfl (hb hby at_551)
        refine Fin.go st134 ?_
        have V134 := fillV (L := (tE [x1, x2, x3])) (i := 18) (Arv.set B134 q134 S134 M134 H134 G134 (fits_nar_char _) W134 18 rfl (fillLt (show 18 < 27 from by decide))) (narC _ hx1) (show 18 < 27 from by decide)
        have KK134 := KK133.wr W134 (Or.inl (List.mem_of_getElem? (i := 0) rfl))
        have N134 := Fr.snoc X134 N133 n114
        have O134 := O133.wr W134 n114
        have hk134 := Nat.le_trans hk133 (Keep.of_wr W134).1
        have RR134 := RR133.trans (CHr.wr W134 (Safe.arv hZ.alike V133 (by decide)) RR133.1)
        show Fin _ _ _ _ _ _ _ _ T134 (mkF m 552 #[vi p0, vi p1, vi p2, vi p3, vi x1, vi x2, vi x3, vi (p3 &&& (3 : Int32)), vr a107, .unset, .unset, .unset, .unset] [(.ref a114), (.ref a113), (.ref a113)])
        refine .go (fun _ k => XS.dup X134.here hx rfl (hb hby at_552) rfl rfl k) ?_
        refine .go (fun _ k => XS.bipush X134.here hx rfl (hb hby at_553) k) ?_
        refine .go (fun _ k => XS.iload X134.here hx rfl (hb hby at_555) rfl k) ?_
        obtain ⟨cz135, B135, q135, S135, M135, H135, G135⟩ := id V134
        obtain ⟨T135, h135, X135, e135, W135, st135⟩ := stC X134 hx hZ e134 B135 (j := (19 : Int32)) (inb_of S135 ⟨(by decide), (by decide)⟩) (g := (mkF m 557 #[vi p0, vi p1, vi p2, vi p3, vi x1, vi x2, vi x3, vi (p3 &&& (3 : Int32)), vr a107, .unset, .unset, .unset, .unset] [(.int x2), (.int (19 : Int32)), (.ref a114), (.ref a114), (.ref a113), (.ref a113)])) rfl rfl (hb hby at_557)
        refine Fin.go st135 ?_
        have V135 := fillV (L := (tE [x1, x2, x3])) (i := 19) (Arv.set B135 q135 S135 M135 H135 G135 (fits_nar_char _) W135 19 rfl (fillLt (show 19 < 27 from by decide))) (narC _ hx2) (show 19 < 27 from by decide)
        have KK135 := KK134.wr W135 (Or.inl (List.mem_of_getElem? (i := 0) rfl))
        have N135 := Fr.snoc X135 N134 n114
        have O135 := O134.wr W135 n114
        have hk135 := Nat.le_trans hk134 (Keep.of_wr W135).1
        have RR135 := RR134.trans (CHr.wr W135 (Safe.arv hZ.alike V134 (by decide)) RR134.1)
        show Fin _ _ _ _ _ _ _ _ T135 (mkF m 558 #[vi p0, vi p1, vi p2, vi p3, vi x1, vi x2, vi x3, vi (p3 &&& (3 : Int32)), vr a107, .unset, .unset, .unset, .unset] [(.ref a114), (.ref a113), (.ref a113)])
        refine .go (fun _ k => XS.dup X135.here hx rfl (hb hby at_558) rfl rfl k) ?_
        refine .go (fun _ k => XS.bipush X135.here hx rfl (hb hby at_559) k) ?_
        refine .go (fun _ k => XS.iload X135.here hx rfl (hb hby at_561) rfl k) ?_
        obtain ⟨cz136, B136, q136, S136, M136, H136, G136⟩ := id V135
        obtain ⟨T136, h136, X136, e136, W136, st136⟩ := stC X135 hx hZ e135 B136 (j := (20 : Int32)) (inb_of S136 ⟨(by decide), (by decide)⟩) (g := (mkF m 563 #[vi p0, vi p1, vi p2, vi p3, vi x1, vi x2, vi x3, vi (p3 &&& (3 : Int32)), vr a107, .unset, .unset, .unset, .unset] [(.int x3), (.int (20 : Int32)), (.ref a114), (.ref a114), (.ref a113), (.ref a113)])) rfl rfl (hb hby at_563)
        refine Fin.go st136 ?_
        have V136 := fillV (L := (tE [x1, x2, x3])) (i := 20) (Arv.set B136 q136 S136 M136 H136 G136 (fits_nar_char _) W136 20 rfl (fillLt (show 20 < 27 from by decide))) (narC _ hx3) (show 20 < 27 from by decide)
        have KK136 := KK135.wr W136 (Or.inl (List.mem_of_getElem? (i := 0) rfl))
        have N136 := Fr.snoc X136 N135 n114
        have O136 := O135.wr W136 n114
        have hk136 := Nat.le_trans hk135 (Keep.of_wr W136).1
        have RR136 := RR135.trans (CHr.wr W136 (Safe.arv hZ.alike V135 (by decide)) RR135.1)
        show Fin _ _ _ _ _ _ _ _ T136 (mkF m 564 #[vi p0, vi p1, vi p2, vi p3, vi x1, vi x2, vi x3, vi (p3 &&& (3 : Int32)), vr a107, .unset, .unset, .unset, .unset] [(.ref a114), (.ref a113), (.ref a113)])
        refine .go (fun _ k => XS.dup X136.here hx rfl (hb hby at_564) rfl rfl k) ?_
        refine .go (fun _ k => XS.bipush X136.here hx rfl (hb hby at_565) k) ?_
        refine .go (fun _ k => XS.bipush X136.here hx rfl (hb hby at_567) k) ?_
        obtain ⟨cz137, B137, q137, S137, M137, H137, G137⟩ := id V136
        obtain ⟨T137, h137, X137, e137, W137, st137⟩ := stC X136 hx hZ e136 B137 (j := (21 : Int32)) (inb_of S137 ⟨(by decide), (by decide)⟩) (g := (mkF m 569 #[vi p0, vi p1, vi p2, vi p3, vi x1, vi x2, vi x3, vi (p3 &&& (3 : Int32)), vr a107, .unset, .unset, .unset, .unset] [(.int (32 : Int32)), (.int (21 : Int32)), (.ref a114), (.ref a114), (.ref a113), (.ref a113)])) rfl rfl (hb hby at_569)
        refine Fin.go st137 ?_
        have V137 := fillV (L := (tE [x1, x2, x3])) (i := 21) (Arv.set B137 q137 S137 M137 H137 G137 (fits_nar_char _) W137 21 rfl (fillLt (show 21 < 27 from by decide))) (show nar .char (32 : Int32) = (32 : Int32) from by decide) (show 21 < 27 from by decide)
        have KK137 := KK136.wr W137 (Or.inl (List.mem_of_getElem? (i := 0) rfl))
        have N137 := Fr.snoc X137 N136 n114
        have O137 := O136.wr W137 n114
        have hk137 := Nat.le_trans hk136 (Keep.of_wr W137).1
        have RR137 := RR136.trans (CHr.wr W137 (Safe.arv hZ.alike V136 (by decide)) RR136.1)
        show Fin _ _ _ _ _ _ _ _ T137 (mkF m 570 #[vi p0, vi p1, vi p2, vi p3, vi x1, vi x2, vi x3, vi (p3 &&& (3 : Int32)), vr a107, .unset, .unset, .unset, .unset] [(.ref a114), (.ref a113), (.ref a113)])
        refine .go (fun _ k => XS.dup X137.here hx rfl (hb hby at_570) rfl rfl k) ?_
        refine .go (fun _ k => XS.bipush X137.here hx rfl (hb hby at_571) k) ?_
        refine .go (fun _ k => XS.bipush X137.here hx rfl (hb hby at_573) k) ?_
        obtain ⟨cz138, B138, q138, S138, M138, H138, G138⟩ := id V137
        obtain ⟨T138, h138, X138, e138, W138, st138⟩ := stC X137 hx hZ e137 B138 (j := (22 : Int32)) (inb_of S138 ⟨(by decide), (by decide)⟩) (g := (mkF m 575 #[vi p0, vi p1, vi p2, vi p3, vi x1, vi x2, vi x3, vi (p3 &&& (3 : Int32)), vr a107, .unset, .unset, .unset, .unset] [(.int (111 : Int32)), (.int (22 : Int32)), (.ref a114), (.ref a114), (.ref a113), (.ref a113)])) rfl rfl (hb hby at_575)
        refine Fin.go st138 ?_
        have V138 := fillV (L := (tE [x1, x2, x3])) (i := 22) (Arv.set B138 q138 S138 M138 H138 G138 (fits_nar_char _) W138 22 rfl (fillLt (show 22 < 27 from by decide))) (show nar .char (111 : Int32) = (111 : Int32) from by decide) (show 22 < 27 from by decide)
        have KK138 := KK137.wr W138 (Or.inl (List.mem_of_getElem? (i := 0) rfl))
        have N138 := Fr.snoc X138 N137 n114
        have O138 := O137.wr W138 n114
        have hk138 := Nat.le_trans hk137 (Keep.of_wr W138).1
        have RR138 := RR137.trans (CHr.wr W138 (Safe.arv hZ.alike V137 (by decide)) RR137.1)
        show Fin _ _ _ _ _ _ _ _ T138 (mkF m 576 #[vi p0, vi p1, vi p2, vi p3, vi x1, vi x2, vi x3, vi (p3 &&& (3 : Int32)), vr a107, .unset, .unset, .unset, .unset] [(.ref a114), (.ref a113), (.ref a113)])
        refine .go (fun _ k => XS.dup X138.here hx rfl (hb hby at_576) rfl rfl k) ?_
        refine .go (fun _ k => XS.bipush X138.here hx rfl (hb hby at_577) k) ?_
        refine .go (fun _ k => XS.bipush X138.here hx rfl (hb hby at_579) k) ?_
        obtain ⟨cz139, B139, q139, S139, M139, H139, G139⟩ := id V138
        obtain ⟨T139, h139, X139, e139, W139, st139⟩ := stC X138 hx hZ e138 B139 (j := (23 : Int32)) (inb_of S139 ⟨(by decide), (by decide)⟩) (g := (mkF m 581 #[vi p0, vi p1, vi p2, vi p3, vi x1, vi x2, vi x3, vi (p3 &&& (3 : Int32)), vr a107, .unset, .unset, .unset, .unset] [(.int (110 : Int32)), (.int (23 : Int32)), (.ref a114), (.ref a114), (.ref a113), (.ref a113)])) rfl rfl (hb hby at_581)
        refine Fin.go st139 ?_
        have V139 := fillV (L := (tE [x1, x2, x3])) (i := 23) (Arv.set B139 q139 S139 M139 H139 G139 (fits_nar_char _) W139 23 rfl (fillLt (show 23 < 27 from by decide))) (show nar .char (110 : Int32) = (110 : Int32) from by decide) (show 23 < 27 from by decide)
        have KK139 := KK138.wr W139 (Or.inl (List.mem_of_getElem? (i := 0) rfl))
        have N139 := Fr.snoc X139 N138 n114
        have O139 := O138.wr W139 n114
        have hk139 := Nat.le_trans hk138 (Keep.of_wr W139).1
        have RR139 := RR138.trans (CHr.wr W139 (Safe.arv hZ.alike V138 (by decide)) RR138.1)
        show Fin _ _ _ _ _ _ _ _ T139 (mkF m 582 #[vi p0, vi p1, vi p2, vi p3, vi x1, vi x2, vi x3, vi (p3 &&& (3 : Int32)), vr a107, .unset, .unset, .unset, .unset] [(.ref a114), (.ref a113), (.ref a113)])
        refine .go (fun _ k => XS.dup X139.here hx rfl (hb hby at_582) rfl rfl k) ?_
        refine .go (fun _ k => XS.bipush X139.here hx rfl (hb hby at_583) k) ?_
        refine .go (fun _ k => XS.bipush X139.here hx rfl (hb hby at_585) k) ?_
        obtain ⟨cz140, B140, q140, S140, M140, H140, G140⟩ := id V139
        obtain ⟨T140, h140, X140, e140, W140, st140⟩ := stC X139 hx hZ e139 B140 (j := (24 : Int32)) (inb_of S140 ⟨(by decide), (by decide)⟩) (g := (mkF m 587 #[vi p0, vi p1, vi p2, vi p3, vi x1, vi x2, vi x3, vi (p3 &&& (3 : Int32)), vr a107, .unset, .unset, .unset, .unset] [(.int (108 : Int32)), (.int (24 : Int32)), (.ref a114), (.ref a114), (.ref a113), (.ref a113)])) rfl rfl (hb hby at_587)
        refine Fin.go st140 ?_
        have V140 := fillV (L := (tE [x1, x2, x3])) (i := 24) (Arv.set B140 q140 S140 M140 H140 G140 (fits_nar_char _) W140 24 rfl (fillLt (show 24 < 27 from by decide))) (show nar .char (108 : Int32) = (108 : Int32) from by decide) (show 24 < 27 from by decide)
        have KK140 := KK139.wr W140 (Or.inl (List.mem_of_getElem? (i := 0) rfl))
        have N140 := Fr.snoc X140 N139 n114
        have O140 := O139.wr W140 n114
        have hk140 := Nat.le_trans hk139 (Keep.of_wr W140).1
        have RR140 := RR139.trans (CHr.wr W140 (Safe.arv hZ.alike V139 (by decide)) RR139.1)
        show Fin _ _ _ _ _ _ _ _ T140 (mkF m 588 #[vi p0, vi p1, vi p2, vi p3, vi x1, vi x2, vi x3, vi (p3 &&& (3 : Int32)), vr a107, .unset, .unset, .unset, .unset] [(.ref a114), (.ref a113), (.ref a113)])
        refine .go (fun _ k => XS.dup X140.here hx rfl (hb hby at_588) rfl rfl k) ?_
        refine .go (fun _ k => XS.bipush X140.here hx rfl (hb hby at_589) k) ?_
        refine .go (fun _ k => XS.bipush X140.here hx rfl (hb hby at_591) k) ?_
        obtain ⟨cz141, B141, q141, S141, M141, H141, G141⟩ := id V140
        obtain ⟨T141, h141, X141, e141, W141, st141⟩ := stC X140 hx hZ e140 B141 (j := (25 : Int32)) (inb_of S141 ⟨(by decide), (by decide)⟩) (g := (mkF m 593 #[vi p0, vi p1, vi p2, vi p3, vi x1, vi x2, vi x3, vi (p3 &&& (3 : Int32)), vr a107, .unset, .unset, .unset, .unset] [(.int (121 : Int32)), (.int (25 : Int32)), (.ref a114), (.ref a114), (.ref a113), (.ref a113)])) rfl rfl (hb hby at_593)
        refine Fin.go st141 ?_
        have V141 := fillV (L := (tE [x1, x2, x3])) (i := 25) (Arv.set B141 q141 S141 M141 H141 G141 (fits_nar_char _) W141 25 rfl (fillLt (show 25 < 27 from by decide))) (show nar .char (121 : Int32) = (121 : Int32) from by decide) (show 25 < 27 from by decide)
        have KK141 := KK140.wr W141 (Or.inl (List.mem_of_getElem? (i := 0) rfl))
        have N141 := Fr.snoc X141 N140 n114
        have O141 := O140.wr W141 n114
        have hk141 := Nat.le_trans hk140 (Keep.of_wr W141).1
        have RR141 := RR140.trans (CHr.wr W141 (Safe.arv hZ.alike V140 (by decide)) RR140.1)
        show Fin _ _ _ _ _ _ _ _ T141 (mkF m 594 #[vi p0, vi p1, vi p2, vi p3, vi x1, vi x2, vi x3, vi (p3 &&& (3 : Int32)), vr a107, .unset, .unset, .unset, .unset] [(.ref a114), (.ref a113), (.ref a113)])
        refine .go (fun _ k => XS.dup X141.here hx rfl (hb hby at_594) rfl rfl k) ?_
        refine .go (fun _ k => XS.bipush X141.here hx rfl (hb hby at_595) k) ?_
        refine .go (fun _ k => XS.bipush X141.here hx rfl (hb hby at_597) k) ?_
        obtain ⟨cz142, B142, q142, S142, M142, H142, G142⟩ := id V141
        obtain ⟨T142, h142, X142, e142, W142, st142⟩ := stC X141 hx hZ e141 B142 (j := (26 : Int32)) (inb_of S142 ⟨(by decide), (by decide)⟩) (g := (mkF m 599 #[vi p0, vi p1, vi p2, vi p3, vi x1, vi x2, vi x3, vi (p3 &&& (3 : Int32)), vr a107, .unset, .unset, .unset, .unset] [(.int (46 : Int32)), (.int (26 : Int32)), (.ref a114), (.ref a114), (.ref a113), (.ref a113)])) rfl rfl (hb hby at_599)
        refine Fin.go st142 ?_
        have V142 := fillV (L := (tE [x1, x2, x3])) (i := 26) (Arv.set B142 q142 S142 M142 H142 G142 (fits_nar_char _) W142 26 rfl (fillLt (show 26 < 27 from by decide))) (show nar .char (46 : Int32) = (46 : Int32) from by decide) (show 26 < 27 from by decide)
        have KK142 := KK141.wr W142 (Or.inl (List.mem_of_getElem? (i := 0) rfl))
        have N142 := Fr.snoc X142 N141 n114
        have O142 := O141.wr W142 n114
        have hk142 := Nat.le_trans hk141 (Keep.of_wr W142).1
        have RR142 := RR141.trans (CHr.wr W142 (Safe.arv hZ.alike V141 (by decide)) RR141.1)
        show Fin _ _ _ _ _ _ _ _ T142 (mkF m 600 #[vi p0, vi p1, vi p2, vi p3, vi x1, vi x2, vi x3, vi (p3 &&& (3 : Int32)), vr a107, .unset, .unset, .unset, .unset] [(.ref a114), (.ref a113), (.ref a113)])
        have Ve143 := fillE V142 (n := 27) rfl rfl
        have Z143_a107 := (((Z112.ext E113).ext E114).keep KK142 (allS (Nat.le_trans (Z112.ext E113).le (Nat.le_of_eq g114.symm)) all0))
        have sf143_a113 := (Safe.keep KK142 (sfS (Safe.arv hZ.alike V115 (by decide)) sf0) RR114.1 (sf113.ext E114 RR113.1))
        have F143_a113_value := ((F113_value.ext E114).keep KK142 (ninS (Nat.ne_of_lt (Nat.lt_of_lt_of_eq A113.lt g114.symm)) nin0))
        have F143_a113_coder := ((F113_coder.ext E114).keep KK142 (ninS (Nat.ne_of_lt (Nat.lt_of_lt_of_eq A113.lt g114.symm)) nin0))
        obtain ⟨v144, T144, L144, X144, q144, st144⟩ := callCt X142 hx hZ (y := (⟨"java/lang/String", "<init>", "([C)V"⟩ : MethodName)) rfl hown (hw _ w_29) (hw _ w_30) (hw _ w_3) (hw _ w_31) (by decide) (W := 1) (rmIG l Z a0 hw n0 h142 O142 a113 a114 k114 ((tPre ++ [x1, x2, x3]) ++ tPost) (show 0 < 27 from by decide) (show 27 ≤ 64 from by decide) (chG (chA (chA chPre (chS hx1 (chS hx2 (chS hx3 ch0)))) chPost)) cs S_cs hcs Ve143 ((A113.ext E114).keep KK142) F143_a113_coder F143_a113_value S_as S_hb S_lb n113 (Ne.symm (Nat.ne_of_lt (Nat.lt_of_lt_of_eq A113.lt g114.symm)))) e142 (by decide) (by decide) (by decide) (by decide) (g := (mkF m 600 #[vi p0, vi p1, vi p2, vi p3, vi x1, vi x2, vi x3, vi (p3 &&& (3 : Int32)), vr a107, .unset, .unset, .unset, .unset] [(.ref a114), (.ref a113), (.ref a113)])) rfl (by rw [hml]; rfl) (a := a113) (argsL := [(.ref a114)]) (rest := [(.ref a113)]) (lenOf pd_oACcV rfl) rfl (wk rfl rfl) (hb hby at_600)
        obtain ⟨rfl, Nq144, Kq144, A144, co144, d144, kd144, C144, F144, V144, zd144⟩ := q144
        have N144 := Fr.app N142 Nq144
        have O144 := O142.keep Kq144 (allS n113 all0)
        have RR144 := RR142.trans (CHr.keep Kq144 (sfS sf143_a113 sf0) RR142.1)
        have hk144 := Nat.le_trans hk142 Kq144.1
        refine Fin.go st144 ?_
        have Z144_a107 := (Z143_a107.keep Kq144 (allS (Nat.le_trans Z112.le (Nat.le_of_eq g113.symm)) all0))
        show Fin _ _ _ _ _ _ _ _ T144 (mkF m 603 #[vi p0, vi p1, vi p2, vi p3, vi x1, vi x2, vi x3, vi (p3 &&& (3 : Int32)), vr a107, .unset, .unset, .unset, .unset] [(.ref a113)])
        have Z144 : SX Z T144.heap a113 co144 ((tPre ++ [x1, x2, x3]) ++ tPost) T144.heap.size := sxRaw A144 C144 F144 V144
        refine .go (fun _ k => XS.astore X144.here hx rfl (hb hby at_603) rfl rfl (l' := #[vi p0, vi p1, vi p2, vi p3, vi x1, vi x2, vi x3, vi (p3 &&& (3 : Int32)), vr a107, vr a113, .unset, .unset, .unset]) rfl k) ?_
        refine .go (fun _ k => XS.aload X144.here hx rfl (hb hby at_605) rfl rfl k) ?_
        obtain ⟨v145, T145, L145, X145, hS145, hZ145, hown145, RC145, q145, st145⟩ := callStH X144 hx hZ (y := (⟨"com/example/spool/spool/http/HttpError", "methodNotAllowed", "(Ljava/lang/String;)Lcom/example/spool/spool/http/HttpError;"⟩ : MethodName)) hown (hw _ w_45) (hw _ w_46) (hw _ w_47) (hw _ w_48) (by decide) (W := 0) (rmMNA l Z a0 hw n0 T144.heap O144 a107 co112 [x1, x2, x3] T112.heap.size (show 3 ≤ 3 from by decide) (chS hx1 (chS hx2 (chS hx3 ch0))) Z144_a107 cs S_cs hcs S_as S_hb S_lb fm hfm S_fm us hus S_us ss hss S_ss) (rfl : T144.heap = T144.heap) hS hk144 hEL RR144.1 (by decide) (by decide) (by decide) (by decide) (g := (mkF m 607 #[vi p0, vi p1, vi p2, vi p3, vi x1, vi x2, vi x3, vi (p3 &&& (3 : Int32)), vr a107, vr a113, .unset, .unset, .unset] [(.ref a107)])) rfl (by rw [hml]; rfl) (argsL := [(.ref a107)]) (rest := []) (lenOf pd_oLjava_lang_String_cLcom_example_spool_spool_http_HttpError_ rfl) rfl (wk rfl rfl) (hb hby at_607)
        obtain ⟨u145, ck145, g145, cg145, rfl, Nq145, Kq145, U145, U0145, U1145, U2145, U3145, Zc145, Zg145⟩ := q145
        have N145 := Fr.app N144 Nq145
        have O145 := O144.keep Kq145 all0
        have RR145 := RR144.trans RC145
        refine Fin.go st145 ?_
        show Fin _ _ _ _ _ _ _ _ T145 (mkF m 610 #[vi p0, vi p1, vi p2, vi p3, vi x1, vi x2, vi x3, vi (p3 &&& (3 : Int32)), vr a107, vr a113, .unset, .unset, .unset] [(.ref u145)])
        refine .go (fun _ k => XS.astore X145.here hx rfl (hb hby at_610) rfl rfl (l' := #[vi p0, vi p1, vi p2, vi p3, vi x1, vi x2, vi x3, vi (p3 &&& (3 : Int32)), vr a107, vr a113, vr u145, .unset, .unset]) rfl k) ?_
        refine .go (fun _ k => XS.aload X145.here hx rfl (hb hby at_612) rfl rfl k) ?_
        obtain ⟨v146, T146, L146, X146, q146, st146⟩ := callVt X145 hx hZ145 (y := (⟨"com/example/spool/spool/http/HttpError", "allowed", "()Ljava/lang/String;"⟩ : MethodName)) hown145 (hw _ w_214) (hw _ w_215) (hw _ w_217) (hw _ w_216) (hw _ w_47) (hw _ w_218) (by decide) (W := 0) (rmGa l Z a0 hw n0 T145.heap O145 u145 a107 U2145) (rfl : T145.heap = T145.heap) U145 (by decide) (by decide) (by decide) (by decide) (g := (mkF m 614 #[vi p0, vi p1, vi p2, vi p3, vi x1, vi x2, vi x3, vi (p3 &&& (3 : Int32)), vr a107, vr a113, vr u145, .unset, .unset] [(.ref u145)])) rfl (by rw [hml]; rfl) (argsL := []) (rest := []) (lenOf pd_ocLjava_lang_String_ rfl) rfl (wk rfl rfl) (hb hby at_614)
        obtain ⟨rfl, e146, rfl⟩ := q146
        have N146 := Fr.app N145 (Fr.nil n0)
        refine Fin.go st146 ?_
        show Fin _ _ _ _ _ _ _ _ T146 (mkF m 617 #[vi p0, vi p1, vi p2, vi p3, vi x1, vi x2, vi x3, vi (p3 &&& (3 : Int32)), vr a107, vr a113, vr u145, .unset, .unset] [(.ref a107)])
        refine .go (fun _ k => XS.astore X146.here hx rfl (hb hby at_617) rfl rfl (l' := #[vi p0, vi p1, vi p2, vi p3, vi x1, vi x2, vi x3, vi (p3 &&& (3 : Int32)), vr a107, vr a113, vr u145, vr a107, .unset]) rfl k) ?_
        refine .go (fun _ k => XS.aload X146.here hx rfl (hb hby at_619) rfl rfl k) ?_
        obtain ⟨v147, T147, L147, X147, q147, st147⟩ := callVUt X146 hx hZ145 (y := (⟨"com/example/spool/spool/http/HttpError", "getMessage", "()Ljava/lang/String;"⟩ : MethodName)) (z := (⟨"java/lang/Throwable", "getMessage", "()Ljava/lang/String;"⟩ : MethodName)) (owner := "java/lang/Throwable") hown145 (hw _ w_219) (hw _ w_220) (hw _ w_221) (hw _ w_223) (hw _ w_222) (hw _ w_195) (hw _ w_224) (by decide) (W := 0) (rmGm l Z a0 hw n0 T145.heap O145 u145 g145 U3145) e146 U145 (by decide) (by decide) (by decide) (by decide) (g := (mkF m 621 #[vi p0, vi p1, vi p2, vi p3, vi x1, vi x2, vi x3, vi (p3 &&& (3 : Int32)), vr a107, vr a113, vr u145, vr a107, .unset] [(.ref u145)])) rfl (by rw [hml]; rfl) (argsL := []) (rest := []) (lenOf pd_ocLjava_lang_String_ rfl) rfl (wk rfl rfl) (hb hby at_621)
        obtain ⟨rfl, e147, rfl⟩ := q147
        have N147 := Fr.app N146 (Fr.nil n0)
        refine Fin.go st147 ?_
        show Fin _ _ _ _ _ _ _ _ T147 (mkF m 624 #[vi p0, vi p1, vi p2, vi p3, vi x1, vi x2, vi x3, vi (p3 &&& (3 : Int32)), vr a107, vr a113, vr u145, vr a107, .unset] [(.ref g145)])
        refine .go (fun _ k => XS.astore X147.here hx rfl (hb hby at_624) rfl rfl (l' := #[vi p0, vi p1, vi p2, vi p3, vi x1, vi x2, vi x3, vi (p3 &&& (3 : Int32)), vr a107, vr a113, vr u145, vr a107, vr g145]) rfl k) ?_
        refine .go (fun _ k => XS.aload X147.here hx rfl (hb hby at_626) rfl rfl k) ?_
        obtain ⟨v148, T148, L148, X148, q148, st148⟩ := callVt X147 hx hZ145 (y := (⟨"com/example/spool/spool/http/HttpError", "status", "()I"⟩ : MethodName)) hown145 (hw _ w_225) (hw _ w_226) (hw _ w_228) (hw _ w_227) (hw _ w_47) (hw _ w_229) (by decide) (W := 0) (rmGs l Z a0 hw n0 T145.heap O145 u145 u145 U0145) e147 U145 (by decide) (by decide) (by decide) (by decide) (g := (mkF m 628 #[vi p0, vi p1, vi p2, vi p3, vi x1, vi x2, vi x3, vi (p3 &&& (3 : Int32)), vr a107, vr a113, vr u145, vr a107, vr g145] [(.ref u145)])) rfl (by rw [hml]; rfl) (argsL := []) (rest := []) (lenOf pd_ocI rfl) rfl (wk rfl rfl) (hb hby at_628)
        obtain ⟨rfl, e148, rfl⟩ := q148
        have N148 := Fr.app N147 (Fr.nil n0)
        refine Fin.go st148 ?_
        show Fin _ _ _ _ _ _ _ _ T148 (mkF m 631 #[vi p0, vi p1, vi p2, vi p3, vi x1, vi x2, vi x3, vi (p3 &&& (3 : Int32)), vr a107, vr a113, vr u145, vr a107, vr g145] [(.int (405 : Int32))])
        refine .go (fun _ k => XS.sipush X148.here hx rfl (hb hby at_631) k) ?_
        refine .go (fun _ k => XS.icmpNo X148.here hx rfl (hb hby at_634) rfl (XT.ii_ne_f (by decide)) k) ?_
        show Fin _ _ _ _ _ _ _ _ T148 (mkF m 637 #[vi p0, vi p1, vi p2, vi p3, vi x1, vi x2, vi x3, vi (p3 &&& (3 : Int32)), vr a107, vr a113, vr u145, vr a107, vr g145] [])
        obtain ⟨a149, T149, h149, k149, b149, kb149, X149, e149, E149, hS149, hj149, hZ149, hown149, A149, C149, F149, V149, l1149, l2149, RC149, lt149, ns149, st149⟩ := ldcCH X148 hx hZ145 hown145 (hw _ w_230) (strW hw) e148 hS145 (Nat.le_refl T145.heap.size) hEL (by decide) RR145.1 (vs := [(.int (109 : Int32)), (.int (101 : Int32)), (.int (116 : Int32)), (.int (104 : Int32)), (.int (111 : Int32)), (.int (100 : Int32)), (.int (95 : Int32)), (.int (110 : Int32)), (.int (111 : Int32)), (.int (116 : Int32)), (.int (95 : Int32)), (.int (97 : Int32)), (.int (108 : Int32)), (.int (108 : Int32)), (.int (111 : Int32)), (.int (119 : Int32)), (.int (101 : Int32)), (.int (100 : Int32))]) (z := (18 : Int32)) (by decide +kernel) (by decide) (by decide) (g := (mkF m 637 #[vi p0, vi p1, vi p2, vi p3, vi x1, vi x2, vi x3, vi (p3 &&& (3 : Int32)), vr a107, vr a113, vr u145, vr a107, vr g145] [])) rfl (hb hby at_637) (n := 72) (by decide) (by decide) (by decide) (by decide)
        refine Fin.go st149 ?_
        have O149 := O145.ext E149
        have RR149 := RR145.trans RC149
        show Fin _ _ _ _ _ _ _ _ T149 (mkF m 639 #[vi p0, vi p1, vi p2, vi p3, vi x1, vi x2, vi x3, vi (p3 &&& (3 : Int32)), vr a107, vr a113, vr u145, vr a107, vr g145] [(.ref a149)])
        have Z149 : SX Z h149 a149 0 tCode h149.size := sxRaw A149 C149 F149 (bxLit V149 rfl (by decide) rfl (by decide))
        refine .go (fun _ k => XS.aload X149.here hx rfl (hb hby at_639) rfl rfl k) ?_
        obtain ⟨v150, T150, L150, X150, q150, st150⟩ := callVt X149 hx hZ149 (y := (⟨"com/example/spool/spool/http/HttpError", "code", "()Ljava/lang/String;"⟩ : MethodName)) hown149 (hw _ w_231) (hw _ w_232) (hw _ w_234) (hw _ w_233) (hw _ w_47) (hw _ w_235) (by decide) (W := 1) (rmGc l Z a0 hw n0 h149 O149 u145 ck145 (U1145.ext E149)) e149 (U145.ext E149) (by decide) (by decide) (by decide) (by decide) (g := (mkF m 641 #[vi p0, vi p1, vi p2, vi p3, vi x1, vi x2, vi x3, vi (p3 &&& (3 : Int32)), vr a107, vr a113, vr u145, vr a107, vr g145] [(.ref u145), (.ref a149)])) rfl (by rw [hml]; rfl) (argsL := []) (rest := [(.ref a149)]) (lenOf pd_ocLjava_lang_String_ rfl) rfl (wk rfl rfl) (hb hby at_641)
        obtain ⟨rfl, e150, rfl⟩ := q150
        have N150 := Fr.app N148 (Fr.nil n0)
        refine Fin.go st150 ?_
        show Fin _ _ _ _ _ _ _ _ T150 (mkF m 644 #[vi p0, vi p1, vi p2, vi p3, vi x1, vi x2, vi x3, vi (p3 &&& (3 : Int32)), vr a107, vr a113, vr u145, vr a107, vr g145] [(.ref ck145), (.ref a149)])
        obtain ⟨v151, T151, L151, X151, q151, st151⟩ := callVt X150 hx hZ149 (y := (⟨"java/lang/String", "equals", "(Ljava/lang/Object;)Z"⟩ : MethodName)) hown149 (hw _ w_236) (hw _ w_237) (hw _ w_239) (hw _ w_238) (hw _ w_3) (hw _ w_240) (by decide) (W := 0) (rmEqX l Z a0 hw n0 h149 O149 a149 ck145 0 0 tCode h149.size T145.heap.size (by decide) Z149 (Zc145.ext E149) cs S_cs hcs) e150 Z149.exa (by decide) (by decide) (by decide) (by decide) (g := (mkF m 644 #[vi p0, vi p1, vi p2, vi p3, vi x1, vi x2, vi x3, vi (p3 &&& (3 : Int32)), vr a107, vr a113, vr u145, vr a107, vr g145] [(.ref ck145), (.ref a149)])) rfl (by rw [hml]; rfl) (argsL := [(.ref ck145)]) (rest := []) (lenOf pd_oLjava_lang_Object_cZ rfl) rfl (wk rfl rfl) (hb hby at_644)
        obtain ⟨rfl, e151, rfl⟩ := q151
        have N151 := Fr.app N150 (Fr.nil n0)
        refine Fin.go st151 ?_
        show Fin _ _ _ _ _ _ _ _ T151 (mkF m 647 #[vi p0, vi p1, vi p2, vi p3, vi x1, vi x2, vi x3, vi (p3 &&& (3 : Int32)), vr a107, vr a113, vr u145, vr a107, vr g145] [(.int (1 : Int32))])
        refine .go (fun _ k => XS.ifNo X151.here hx rfl (hb hby at_647) rfl (XT.i0_eq_f (by decide)) k) ?_
        show Fin _ _ _ _ _ _ _ _ T151 (mkF m 650 #[vi p0, vi p1, vi p2, vi p3, vi x1, vi x2, vi x3, vi (p3 &&& (3 : Int32)), vr a107, vr a113, vr u145, vr a107, vr g145] [])
        refine .go (fun _ k => XS.aload X151.here hx rfl (hb hby at_650) rfl rfl k) ?_
        refine .go (fun _ k => XS.ifnullNo X151.here hx rfl (hb hby at_652) rfl k) ?_
        refine .go (fun _ k => XS.aload X151.here hx rfl (hb hby at_655) rfl rfl k) ?_
        refine .go (fun _ k => XS.aload X151.here hx rfl (hb hby at_657) rfl rfl k) ?_
        show Fin _ _ _ _ _ _ _ _ T151 (mkF m 659 #[vi p0, vi p1, vi p2, vi p3, vi x1, vi x2, vi x3, vi (p3 &&& (3 : Int32)), vr a107, vr a113, vr u145, vr a107, vr g145] [(.ref a107), (.ref a107)])
        obtain ⟨v152, T152, L152, X152, q152, st152⟩ := callVt X151 hx hZ149 (y := (⟨"java/lang/String", "equals", "(Ljava/lang/Object;)Z"⟩ : MethodName)) hown149 (hw _ w_236) (hw _ w_237) (hw _ w_239) (hw _ w_238) (hw _ w_3) (hw _ w_240) (by decide) (W := 0) (rmEqX l Z a0 hw n0 h149 O149 a107 a107 co112 co112 [x1, x2, x3] T112.heap.size T112.heap.size (show 3 ≤ 64 from by decide) ((Z144_a107.keep Kq145 all0).ext E149) ((Z144_a107.keep Kq145 all0).ext E149) cs S_cs hcs) e151 ((Z144_a107.keep Kq145 all0).ext E149).exa (by decide) (by decide) (by decide) (by decide) (g := (mkF m 659 #[vi p0, vi p1, vi p2, vi p3, vi x1, vi x2, vi x3, vi (p3 &&& (3 : Int32)), vr a107, vr a113, vr u145, vr a107, vr g145] [(.ref a107), (.ref a107)])) rfl (by rw [hml]; rfl) (argsL := [(.ref a107)]) (rest := []) (lenOf pd_oLjava_lang_Object_cZ rfl) rfl (wk rfl rfl) (hb hby at_659)
        obtain ⟨rfl, e152, rfl⟩ := q152
        have N152 := Fr.app N151 (Fr.nil n0)
        refine Fin.go st152 ?_
        show Fin _ _ _ _ _ _ _ _ T152 (mkF m 662 #[vi p0, vi p1, vi p2, vi p3, vi x1, vi x2, vi x3, vi (p3 &&& (3 : Int32)), vr a107, vr a113, vr u145, vr a107, vr g145] [(.int (1 : Int32))])
        refine .go (fun _ k => XS.ifNo X152.here hx rfl (hb hby at_662) rfl (XT.i0_eq_f (by decide)) k) ?_
        show Fin _ _ _ _ _ _ _ _ T152 (mkF m 665 #[vi p0, vi p1, vi p2, vi p3, vi x1, vi x2, vi x3, vi (p3 &&& (3 : Int32)), vr a107, vr a113, vr u145, vr a107, vr g145] [])
        refine .go (fun _ k => XS.aload X152.here hx rfl (hb hby at_665) rfl rfl k) ?_
        refine .go (fun _ k => XS.ifnullNo X152.here hx rfl (hb hby at_667) rfl k) ?_
        refine .go (fun _ k => XS.aload X152.here hx rfl (hb hby at_670) rfl rfl k) ?_
        refine .go (fun _ k => XS.aload X152.here hx rfl (hb hby at_672) rfl rfl k) ?_
        show Fin _ _ _ _ _ _ _ _ T152 (mkF m 674 #[vi p0, vi p1, vi p2, vi p3, vi x1, vi x2, vi x3, vi (p3 &&& (3 : Int32)), vr a107, vr a113, vr u145, vr a107, vr g145] [(.ref g145), (.ref a113)])
        obtain ⟨v153, T153, L153, X153, q153, st153⟩ := callVt X152 hx hZ149 (y := (⟨"java/lang/String", "equals", "(Ljava/lang/Object;)Z"⟩ : MethodName)) hown149 (hw _ w_236) (hw _ w_237) (hw _ w_239) (hw _ w_238) (hw _ w_3) (hw _ w_240) (by decide) (W := 0) (rmEqX l Z a0 hw n0 h149 O149 a113 g145 co144 cg145 ((tPre ++ [x1, x2, x3]) ++ tPost) T144.heap.size T145.heap.size (show 27 ≤ 64 from by decide) ((Z144.keep Kq145 all0).ext E149) (Zg145.ext E149) cs S_cs hcs) e152 ((Z144.keep Kq145 all0).ext E149).exa (by decide) (by decide) (by decide) (by decide) (g := (mkF m 674 #[vi p0, vi p1, vi p2, vi p3, vi x1, vi x2, vi x3, vi (p3 &&& (3 : Int32)), vr a107, vr a113, vr u145, vr a107, vr g145] [(.ref g145), (.ref a113)])) rfl (by rw [hml]; rfl) (argsL := [(.ref g145)]) (rest := []) (lenOf pd_oLjava_lang_Object_cZ rfl) rfl (wk rfl rfl) (hb hby at_674)
        obtain ⟨rfl, e153, rfl⟩ := q153
        have N153 := Fr.app N152 (Fr.nil n0)
        refine Fin.go st153 ?_
        show Fin _ _ _ _ _ _ _ _ T153 (mkF m 677 #[vi p0, vi p1, vi p2, vi p3, vi x1, vi x2, vi x3, vi (p3 &&& (3 : Int32)), vr a107, vr a113, vr u145, vr a107, vr g145] [(.int (1 : Int32))])
        refine .go (fun _ k => XS.ifNo X153.here hx rfl (hb hby at_677) rfl (XT.i0_eq_f (by decide)) k) ?_
        show Fin _ _ _ _ _ _ _ _ T153 (mkF m 680 #[vi p0, vi p1, vi p2, vi p3, vi x1, vi x2, vi x3, vi (p3 &&& (3 : Int32)), vr a107, vr a113, vr u145, vr a107, vr g145] [])
        refine .go (fun _ k => XS.iconst X153.here hx rfl (hb hby at_680) k) ?_
        refine .go (fun _ k => XS.goto X153.here hx rfl (pc0 := 681) (pc' := 685) rfl (hb hby at_681) (by decide) (by decide) k) ?_
        exact Fin.leaveH X153 hS149 hj149 hZ149 hEL e153 RR149 hlk (v := some (.int (nar .boolean (1 : Int32)))) (nvS hret) (by decide) (by decide) ⟨rfl, N153⟩ (fun fs hr => retN X153 hx (t := .boolean) hret (by simp) (hb hby at_685) hr)
theorem isR_v {args : Array Value} {s : State} {t : Term} (h : (Jvm.Cond.isRef t).value args s none s [] = some true) : ∃ v, t.eval args s none [] s = some v ∧ v.isRef = true := by
  cases q : t.eval args s none [] s with
  | none => simp [Cond.value, q] at h
  | some v => exact ⟨v, rfl, by cases v <;> simp_all [Cond.value, Value.isRef]⟩
set_option maxRecDepth 65536 in
set_option maxHeartbeats 40000000 in
theorem comes_1 {Post : Tables → Env → Array Value → State → Outcome → State → Prop} (hpost : ∀ tb e args s v u, (limb_1_1.after args s (.returned v) u = true ∧ limb_1_2.after args s (.returned v) u = true ∧ True) → ReturnedEndW s (.returned v) u (Jvm.fieldLocs frame_1_writes args s ++ Jvm.arrayLocs frame_1_arrays args s ++ Jvm.staticLocs frame_1_statics s) 56 6912 → Post tb e args s (.returned v) u) :
    ArmFor flags0 classFile x code maxLocals ret World_1 tables_1 room_1 Calls_1 rest_1 Pre_1 Post := by
  intro l hfl _ _ p e ha hc hk s m args below hf hA hF happ hP
  obtain ⟨hcalls, hrest, hpre⟩ := hP
  obtain ⟨-, -, -, hnamed, -, -, -, hat⟩ := (Spec.applies_iff hf).mp happ
  obtain ⟨hg, hn⟩ := and_e (Cond.before_iff.mp (show (Jvm.Cond.and given_1 narrow_1).before args s = true from hpre))
  obtain ⟨hcnt, hg⟩ := and_e hg
  obtain ⟨u0, u1, u2, u3, rfl⟩ : ∃ u0 u1 u2 u3 : Value, args = #[u0, u1, u2, u3] := by
    have hs : args.size = 4 := by simpa [Cond.value, given_1] using hcnt
    obtain ⟨L⟩ := args
    match L, hs with
    | [u0, u1, u2, u3], _ => exact ⟨u0, u1, u2, u3, rfl⟩
  have hw := fun d (hd : d ∈ tables_1) => atoms_spec (ws := Jvm.Cond.code x code maxLocals ret :: tables_1) hat d (List.mem_cons_of_mem _ hd)
  have hfit : Fit s := fun {y c} hc i hi => by
    obtain ⟨ha, rfl⟩ := Array.getElem?_eq_some_iff.mp hc
    have q := List.all_eq_true.mp ((Array.all_eq_true_iff_forall_mem.mp hF) _ (Array.getElem_mem ha)) i (List.mem_range.mpr hi)
    simpa [Array.getElem?_eq_getElem hi] using q
  obtain ⟨g0, hg⟩ := and_e hg
  obtain ⟨i0, ei0⟩ := is_v g0
  obtain rfl : u0 = (.int i0) := Option.some.inj ei0
  obtain ⟨g1, hg⟩ := and_e hg
  obtain ⟨i1, ei1⟩ := is_v g1
  obtain rfl : u1 = (.int i1) := Option.some.inj ei1
  obtain ⟨g2, hg⟩ := and_e hg
  obtain ⟨i2, ei2⟩ := is_v g2
  obtain rfl : u2 = (.int i2) := Option.some.inj ei2
  have g3 := hg
  obtain ⟨i3, ei3⟩ := is_v g3
  obtain rfl : u3 = (.int i3) := Option.some.inj ei3
  have hsets := fun (i : Nat) {w : Jvm.Cond} (h : jdkStatics_1[i]? = some w) => (atoms_of _ (rest_1_c_eq ▸ (show rest_1_c.before _ s = true from hrest))).1 w (List.mem_of_getElem? h)
  have hci := Cond.before_iff.mp (hsets 1 rfl)
  obtain ⟨cs, ecs⟩ := is_v hci
  have S_cs := Sta.start ecs (Or.inl (hsets 0 rfl))
  have hcs : ¬ cs = 0 := gotF (Cond.eq_ints ecs (Term.int_eval 0)) (not_v (Cond.before_iff.mp (hsets 2 rfl)))
  have hheld : ∀ p ∈ EL, Jvm.Lit.constHeld s p.1 p.2 := fun p hp => hcalls.1 p ((by decide : ∀ p ∈ EL, p ∈ consts_1) p hp)
  have hCH : CHv s EL s.vm s.heap := CHv.start (elW hw) hheld (hsets 2 rfl) (hw _ w_15) (hw _ w_11)
  have S_as := Sta.start (show (Jvm.Term.static "java/lang/StringUTF16" "$assertionsDisabled" "Z").eval _ s none [] s = some (.int (1 : Int32)) from eqv_i (F := .int (1 : Int32)) rfl (Cond.before_iff.mp (hsets 32 rfl))) (Or.inl (hsets 31 rfl))
  have S_hb := Sta.start (show (Jvm.Term.static "java/lang/StringUTF16" "HI_BYTE_SHIFT" "I").eval _ s none [] s = some (.int (0 : Int32)) from eqv_i (F := .int (0 : Int32)) rfl (Cond.before_iff.mp (hsets 35 rfl))) (Or.inl (hsets 34 rfl))
  have S_lb := Sta.start (show (Jvm.Term.static "java/lang/StringUTF16" "LO_BYTE_SHIFT" "I").eval _ s none [] s = some (.int (8 : Int32)) from eqv_i (F := .int (8 : Int32)) rfl (Cond.before_iff.mp (hsets 38 rfl))) (Or.inl (hsets 37 rfl))
  obtain ⟨fm, efm, hfm⟩ := isR_v (Cond.before_iff.mp (hsets 8 rfl))
  have S_fm := Sta.start efm (Or.inl (hsets 7 rfl))
  obtain ⟨us, eus, hus⟩ := isR_v (Cond.before_iff.mp (hsets 16 rfl))
  have S_us := Sta.start eus (Or.inl (hsets 15 rfl))
  obtain ⟨ss, ess, hss⟩ := isR_v (Cond.before_iff.mp (hsets 21 rfl))
  have S_ss := Sta.start ess (Or.inl (hsets 20 rfl))
  obtain ⟨n, o, h1, h2, h3, _, L, rfl, ⟨rfl, N⟩, -, hq⟩ := law l s _ hw s.heap.size s.heap (Old.start s) i0 i1 i2 i3 cs S_cs hcs S_as S_hb S_lb fm hfm S_fm us hus S_us ss hss S_ss p e ha hc hk s m _ below hf ((Spec.applies_iff_loose hf).mp happ).1 ⟨rfl, State.Warmed39.refl s, rfl, hCH⟩ trivial
  refine ⟨n, _, h1, h2, h3, hpost _ _ _ _ _ _ ⟨Cond.after_iff.mpr rfl, Cond.after_iff.mpr (eq_i res_at (Term.int_eval (1)) rfl), trivial⟩ ⟨hq.1, hq.2.1, hq.2.2.1, (hq.2.2.2.sift fun y hy => Or.inr (N y hy)).mono (by decide) (by decide)⟩⟩
theorem main_1_1 : Claimed_1_1 := comes_1 fun _ _ _ _ _ _ h hF => ⟨h.1, hF⟩
theorem main_1_2 : Claimed_1_2 := comes_1 fun _ _ _ _ _ _ h hF => ⟨h.2.1, hF⟩
end Jvm.Pilot.@@N@@
namespace Jvm.Pilot.@@N@@
open Jvm Jvm.ClassFile Sem Op Lib Jvm.Free Jvm.Stand Jvm.Pilot.@@N@@.Jvm.D
/-! MADE BY PROGRAM (witnessworld.py) out of the Statement's table words and the real class files: 40 classes; the members and pool entries that the words name. The judged class is class 1, her method 1. -/
namespace start1
open Jvm.ClassFile
def u (s : String) : CpInfo := .utf8 (stringToUtf16 s)
/-- a pool by its gaps: so many unusable entries, then the entry; so many at the end -/
def gap : Nat → List CpInfo → List CpInfo
  | 0, r => r
  | n + 1, r => .unusable :: gap n r
def poolList (es : List (Nat × CpInfo)) (last : Nat) : List CpInfo := es.foldr (fun e r => gap e.1 (e.2 :: r)) (gap last [])
def pool (es : List (Nat × CpInfo)) (last : Nat) : Array CpInfo := ⟨poolList es last⟩
def fileOf (pool : Array CpInfo) (this : Nat) (attrs : Array Attribute := #[]) (ms : Array MethodInfo := #[]) (fl : Nat := 33) (sup : Nat := 0) (ifs : Array Nat := #[]) (fds : Array FieldInfo := #[]) : ClassFile where
  minorVersion := 0
  majorVersion := 65
  constantPool := pool
  accessFlags := fl
  thisClass := this
  superClass := sup
  interfaces := ifs
  fields := fds
  methods := ms
  attributes := attrs
def plain (name : String) (sup : Option ClassId) : Class where
  name := name
  kind := .ordinary
  loader := none
  accessFlags := 33
  super := sup
  interfaces := #[]
  cf := none
  fields := #[]
  methods := #[]
  instanceTypes := #[]
  staticTypes := #[]
  resolved := #[]
  callSites := []
  init := .initialized
  statics := none
  mirror := none

def pool0 : Array CpInfo := pool [(5, u "<init>"), (0, u "()V"), (1, .class_ 10), (1, u "java/lang/Object")] 113

def k0c0 : Code := { maxStack := 0, maxLocals := 1, code := object_method_1_code, exceptionTable := #[], attributes := #[] }
def k0m0 : Method := { name := "<init>", desc := "()V", sig := { parameters := [], returnType := none }, accessFlags := 1, code := some k0c0 }
/-- java/lang/Object -/
def k0 : Class := { plain "java/lang/Object" none with
  accessFlags := 33
  interfaces := #[]
  cf := some (fileOf pool0 8 #[] #[{ accessFlags := 1, nameIndex := 5, descriptorIndex := 6, attributes := #[] }] 33 0 #[] #[])
  fields := #[]
  methods := #[k0m0]
  instanceTypes := #[]
  staticTypes := #[]
  resolved := Array.replicate 124 none
  statics := none }

def pool1 : Array CpInfo := pool [(2, .class_ 4), (1, u "java/lang/Object"), (0, u "<init>"), (0, u "()V"), (0, .integer 65535), (0, .string 9), (0, u ""), (0, .string 11), (0, u "This path answers  only."), (0, .methodref 13 14), (0, .class_ 15), (0, .nameAndType 16 17), (0, u "java/lang/String"), (0, u "valueOf"), (0, u "(C)Ljava/lang/String;"), (0, .methodref 13 19), (0, .nameAndType 5 20), (0, u "([C)V"), (0, .methodref 22 23), (0, .class_ 24), (0, .nameAndType 25 26), (0, u "com/example/spool/spool/http/HttpError"), (0, u "methodNotAllowed"), (0, u "(Ljava/lang/String;)Lcom/example/spool/spool/http/HttpError;"), (0, .methodref 22 28), (0, .nameAndType 29 30), (0, u "allowed"), (0, u "()Ljava/lang/String;"), (0, .methodref 22 32), (0, .nameAndType 33 30), (0, u "getMessage"), (0, .methodref 22 35), (0, .nameAndType 36 37), (0, u "status"), (0, u "()I"), (0, .string 39), (0, u "method_not_allowed"), (0, .methodref 22 41), (0, .nameAndType 42 30), (0, u "code"), (0, .methodref 13 44), (0, .nameAndType 45 46), (0, u "equals"), (0, u "(Ljava/lang/Object;)Z"), (0, .class_ 48), (0, u "com/example/spool/spool/http/HttpErrorMethodNotAllowedPinLaw"), (2, u "law"), (0, u "(IIII)Z")] 3

def k1m0 : Method := { name := "<init>", desc := "()V", sig := { parameters := [], returnType := none }, accessFlags := 1, code := none }
def k1c1 : Code := { maxStack := 6, maxLocals := 13, code := code, exceptionTable := #[], attributes := #[] }
def k1m1 : Method := { name := "law", desc := "(IIII)Z", sig := { parameters := [.int, .int, .int, .int], returnType := some .boolean }, accessFlags := 9, code := some k1c1 }
/-- com/example/spool/spool/http/HttpErrorMethodNotAllowedPinLaw -/
def k1 : Class := { plain "com/example/spool/spool/http/HttpErrorMethodNotAllowedPinLaw" (some 0) with
  accessFlags := 49
  interfaces := #[]
  cf := some (fileOf pool1 47 #[] #[{ accessFlags := 1, nameIndex := 5, descriptorIndex := 6, attributes := #[] }, { accessFlags := 9, nameIndex := 51, descriptorIndex := 52, attributes := #[] }] 49 2 #[] #[])
  fields := #[]
  methods := #[k1m0, k1m1]
  instanceTypes := #[]
  staticTypes := #[]
  resolved := Array.replicate 56 none
  statics := none }

def pool2 : Array CpInfo := pool [(1, .class_ 2), (0, u "java/io/Serializable"), (0, .class_ 4), (0, u "java/lang/Object")] 2

/-- java/io/Serializable -/
def k2 : Class := { plain "java/io/Serializable" (some 0) with
  accessFlags := 1537
  interfaces := #[]
  cf := some (fileOf pool2 1 #[] #[] 1537 3 #[] #[])
  fields := #[]
  methods := #[]
  instanceTypes := #[]
  staticTypes := #[]
  resolved := Array.replicate 7 none
  statics := none }

def pool3 : Array CpInfo := pool [(1, .class_ 2), (0, u "java/lang/Comparable"), (0, .class_ 4), (0, u "java/lang/Object")] 7

/-- java/lang/Comparable -/
def k3 : Class := { plain "java/lang/Comparable" (some 0) with
  accessFlags := 1537
  interfaces := #[]
  cf := some (fileOf pool3 1 #[] #[] 1537 3 #[] #[])
  fields := #[]
  methods := #[]
  instanceTypes := #[]
  staticTypes := #[]
  resolved := Array.replicate 12 none
  statics := none }

def pool4 : Array CpInfo := pool [(2, .class_ 4), (1, u "java/lang/CharSequence"), (42, .class_ 48), (0, u "java/lang/CharSequence$1CodePointIterator"), (10, .class_ 60), (0, u "java/lang/CharSequence$1CharIterator"), (5, .class_ 67), (0, u "java/lang/Object")] 63

/-- java/lang/CharSequence -/
def k4 : Class := { plain "java/lang/CharSequence" (some 0) with
  accessFlags := 1537
  interfaces := #[]
  cf := some (fileOf pool4 2 #[.nestMembers #[47, 59]] #[] 1537 66 #[] #[])
  fields := #[]
  methods := #[]
  instanceTypes := #[]
  staticTypes := #[]
  resolved := Array.replicate 131 none
  statics := none }

def pool5 : Array CpInfo := pool [(1, .class_ 2), (0, u "java/lang/constant/Constable"), (0, .class_ 4), (0, u "java/lang/Object")] 6

/-- java/lang/constant/Constable -/
def k5 : Class := { plain "java/lang/constant/Constable" (some 0) with
  accessFlags := 1537
  interfaces := #[]
  cf := some (fileOf pool5 1 #[] #[] 1537 3 #[] #[])
  fields := #[]
  methods := #[]
  instanceTypes := #[]
  staticTypes := #[]
  resolved := Array.replicate 11 none
  statics := none }

def pool6 : Array CpInfo := pool [(1, .class_ 2), (0, u "java/lang/constant/ConstantDesc"), (0, .class_ 4), (0, u "java/lang/Object")] 32

/-- java/lang/constant/ConstantDesc -/
def k6 : Class := { plain "java/lang/constant/ConstantDesc" (some 0) with
  accessFlags := 1537
  interfaces := #[]
  cf := some (fileOf pool6 1 #[] #[] 1537 3 #[] #[])
  fields := #[]
  methods := #[]
  instanceTypes := #[]
  staticTypes := #[]
  resolved := Array.replicate 37 none
  statics := none }

def pool7 : Array CpInfo := pool [(1, .methodref 2 3), (0, .class_ 4), (0, .nameAndType 5 6), (0, u "java/lang/Object"), (0, u "<init>"), (0, u "()V"), (2, .fieldref 10 11), (0, .class_ 12), (0, .nameAndType 13 14), (0, u "java/lang/String"), (0, u "value"), (0, u "[B"), (0, .fieldref 10 16), (0, .nameAndType 17 18), (0, u "coder"), (0, u "B"), (2, u "hash"), (0, u "I"), (2, u "hashIsZero"), (0, u "Z"), (0, .methodref 10 28), (0, .nameAndType 5 29), (0, u "([CIILjava/lang/Void;)V"), (6, u "checkBoundsOffCount"), (0, u "(III)I"), (0, .fieldref 10 39), (0, .nameAndType 40 26), (0, u "COMPACT_STRINGS"), (1, .class_ 44), (1, u "java/lang/StringUTF16"), (0, u "compress"), (1, .methodref 42 48), (0, .nameAndType 49 50), (0, u "coderFromArrayLen"), (0, u "([BI)B"), (2, u "toBytes"), (0, .methodref 55 56), (0, .class_ 57), (0, .nameAndType 58 59), (0, u "java/util/Arrays"), (0, u "copyOfRange"), (0, u "([BII)[B"), (46, .methodref 107 108), (0, .class_ 109), (0, .nameAndType 110 111), (0, u "java/lang/StringLatin1"), (0, u "inflate"), (0, u "([BI[BII)V"), (30, u "()Z"), (34, .methodref 42 178), (0, .nameAndType 45 179), (0, u "([CII)[B"), (13, .class_ 195), (1, u "java/lang/System"), (13, .methodref 10 210), (0, .nameAndType 5 211), (0, u "([BB)V"), (0, .methodref 193 213), (0, .nameAndType 214 215), (0, u "arraycopy"), (0, u "(Ljava/lang/Object;ILjava/lang/Object;II)V"), (118, u "()I"), (0, .methodref 10 336), (0, .nameAndType 17 337), (0, u "()B"), (2, u "()[B"), (28, u "(C)Z"), (119, .methodref 10 490), (0, .nameAndType 5 491), (0, u "(Ljava/lang/AbstractStringBuilder;Ljava/lang/Void;)V"), (1, .nameAndType 494 142), (0, u "isLatin1"), (11, .nameAndType 507 334), (0, u "length"), (24, u "getBytes"), (8, .methodref 107 542), (0, .nameAndType 543 544), (0, u "equals"), (0, u "([B[B)Z"), (4, .methodref 550 506), (0, .class_ 551), (0, u "java/lang/AbstractStringBuilder"), (0, .methodref 550 553), (0, .nameAndType 554 340), (0, u "getValue"), (18, u "(Ljava/lang/Object;)Z"), (1, .class_ 576), (0, u "java/lang/CharSequence"), (22, u "CASE_INSENSITIVE_ORDER"), (0, u "Ljava/util/Comparator;"), (181, u "valueOf"), (0, u "(C)Ljava/lang/String;"), (37, u "([BIB)V"), (188, u "([C)V"), (4, .methodref 107 1016), (0, .nameAndType 1017 369), (0, u "canEncode"), (0, .methodref 107 1019), (0, .nameAndType 53 1020), (0, u "(C)[B"), (0, .methodref 42 1019), (25, .methodref 550 493), (0, .fieldref 550 1049), (0, .nameAndType 1050 26), (0, u "maybeLatin1"), (2, .fieldref 1054 1055), (0, .class_ 1056), (0, .nameAndType 1057 1058), (0, u "jdk/internal/util/Preconditions"), (0, u "SIOOBE_FORMATTER"), (0, u "Ljava/util/function/BiFunction;"), (5, u "(IIILjava/util/function/BiFunction;)I"), (0, .methodref 1054 1066), (0, .nameAndType 1067 1064), (0, u "checkFromIndexSize"), (33, u "serialPersistentFields"), (0, u "[Ljava/io/ObjectStreamField;"), (0, .class_ 1104), (0, u "java/lang/String$CaseInsensitiveComparator"), (1, .class_ 1107), (0, u "java/io/Serializable"), (0, .class_ 1109), (0, u "java/lang/Comparable"), (0, .class_ 1111), (0, u "java/lang/constant/Constable"), (0, .class_ 1113), (0, u "java/lang/constant/ConstantDesc"), (2, u "serialVersionUID"), (0, u "J"), (3, u "REPL"), (0, u "C"), (2, u "LATIN1"), (1, u "UTF16"), (105, u "(Ljava/lang/StringBuilder;)V")] 217

def k7m0 : Method := { name := "<init>", desc := "()V", sig := { parameters := [], returnType := none }, accessFlags := 1, code := none }
def k7c1 : Code := { maxStack := 5, maxLocals := 2, code := jdk_42_method_3_code, exceptionTable := #[], attributes := #[] }
def k7m1 : Method := { name := "<init>", desc := "([C)V", sig := { parameters := [(.array .char)], returnType := none }, accessFlags := 1, code := some k7c1 }
def k7c2 : Code := { maxStack := 3, maxLocals := 2, code := jdk_42_method_53_code, exceptionTable := #[], attributes := #[] }
def k7m2 : Method := { name := "<init>", desc := "(Ljava/lang/StringBuilder;)V", sig := { parameters := [(.object "java/lang/StringBuilder")], returnType := none }, accessFlags := 1, code := some k7c2 }
def k7c3 : Code := { maxStack := 2, maxLocals := 1, code := jdk_42_method_54_code, exceptionTable := #[], attributes := #[] }
def k7m3 : Method := { name := "length", desc := "()I", sig := { parameters := [], returnType := some .int }, accessFlags := 1, code := some k7c3 }
def k7c4 : Code := { maxStack := 2, maxLocals := 3, code := jdk_42_method_66_code, exceptionTable := #[], attributes := #[] }
def k7m4 : Method := { name := "equals", desc := "(Ljava/lang/Object;)Z", sig := { parameters := [(.object "java/lang/Object")], returnType := some .boolean }, accessFlags := 1, code := some k7c4 }
def k7c5 : Code := { maxStack := 4, maxLocals := 1, code := jdk_42_method_139_code, exceptionTable := #[], attributes := #[] }
def k7m5 : Method := { name := "valueOf", desc := "(C)Ljava/lang/String;", sig := { parameters := [.char], returnType := some (.object "java/lang/String") }, accessFlags := 9, code := some k7c5 }
def k7c6 : Code := { maxStack := 5, maxLocals := 4, code := jdk_42_method_147_code, exceptionTable := #[], attributes := #[] }
def k7m6 : Method := { name := "getBytes", desc := "([BIB)V", sig := { parameters := [(.array .byte), .int, .byte], returnType := none }, accessFlags := 0, code := some k7c6 }
def k7c7 : Code := { maxStack := 4, maxLocals := 6, code := jdk_42_method_149_code, exceptionTable := #[], attributes := #[] }
def k7m7 : Method := { name := "<init>", desc := "([CIILjava/lang/Void;)V", sig := { parameters := [(.array .char), .int, .int, (.object "java/lang/Void")], returnType := none }, accessFlags := 2, code := some k7c7 }
def k7c8 : Code := { maxStack := 5, maxLocals := 5, code := jdk_42_method_150_code, exceptionTable := #[], attributes := #[] }
def k7m8 : Method := { name := "<init>", desc := "(Ljava/lang/AbstractStringBuilder;Ljava/lang/Void;)V", sig := { parameters := [(.object "java/lang/AbstractStringBuilder"), (.object "java/lang/Void")], returnType := none }, accessFlags := 0, code := some k7c8 }
def k7c9 : Code := { maxStack := 2, maxLocals := 3, code := jdk_42_method_151_code, exceptionTable := #[], attributes := #[] }
def k7m9 : Method := { name := "<init>", desc := "([BB)V", sig := { parameters := [(.array .byte), .byte], returnType := none }, accessFlags := 0, code := some k7c9 }
def k7c10 : Code := { maxStack := 1, maxLocals := 1, code := jdk_42_method_152_code, exceptionTable := #[], attributes := #[] }
def k7m10 : Method := { name := "coder", desc := "()B", sig := { parameters := [], returnType := some .byte }, accessFlags := 0, code := some k7c10 }
def k7c11 : Code := { maxStack := 4, maxLocals := 3, code := jdk_42_method_157_code, exceptionTable := #[], attributes := #[] }
def k7m11 : Method := { name := "checkBoundsOffCount", desc := "(III)I", sig := { parameters := [.int, .int, .int], returnType := some .int }, accessFlags := 8, code := some k7c11 }
/-- java/lang/String -/
def k7 : Class := { plain "java/lang/String" (some 0) with
  accessFlags := 49
  interfaces := #[2, 3, 4, 5, 6]
  cf := some (fileOf pool7 10 #[.nestMembers #[1103]] #[{ accessFlags := 1, nameIndex := 5, descriptorIndex := 6, attributes := #[] }, { accessFlags := 1, nameIndex := 5, descriptorIndex := 1010, attributes := #[] }, { accessFlags := 1, nameIndex := 5, descriptorIndex := 1233, attributes := #[] }, { accessFlags := 1, nameIndex := 507, descriptorIndex := 334, attributes := #[] }, { accessFlags := 1, nameIndex := 543, descriptorIndex := 573, attributes := #[] }, { accessFlags := 9, nameIndex := 782, descriptorIndex := 783, attributes := #[] }, { accessFlags := 0, nameIndex := 532, descriptorIndex := 821, attributes := #[] }, { accessFlags := 2, nameIndex := 5, descriptorIndex := 29, attributes := #[] }, { accessFlags := 0, nameIndex := 5, descriptorIndex := 491, attributes := #[] }, { accessFlags := 0, nameIndex := 5, descriptorIndex := 211, attributes := #[] }, { accessFlags := 0, nameIndex := 17, descriptorIndex := 337, attributes := #[] }, { accessFlags := 8, nameIndex := 36, descriptorIndex := 37, attributes := #[] }] 49 2 #[1106, 1108, 575, 1110, 1112] #[{ accessFlags := 18, nameIndex := 13, descriptorIndex := 14, attributes := #[] }, { accessFlags := 18, nameIndex := 17, descriptorIndex := 18, attributes := #[] }, { accessFlags := 2, nameIndex := 21, descriptorIndex := 22, attributes := #[] }, { accessFlags := 2, nameIndex := 25, descriptorIndex := 26, attributes := #[] }, { accessFlags := 26, nameIndex := 1116, descriptorIndex := 1117, attributes := #[] }, { accessFlags := 24, nameIndex := 40, descriptorIndex := 26, attributes := #[] }, { accessFlags := 26, nameIndex := 1101, descriptorIndex := 1102, attributes := #[] }, { accessFlags := 26, nameIndex := 1121, descriptorIndex := 1122, attributes := #[] }, { accessFlags := 25, nameIndex := 599, descriptorIndex := 600, attributes := #[] }, { accessFlags := 24, nameIndex := 1125, descriptorIndex := 18, attributes := #[] }, { accessFlags := 24, nameIndex := 1127, descriptorIndex := 18, attributes := #[] }])
  fields := #[{ name := "value", type := (.array .byte), accessFlags := 18, slot := 0, constantValue := 0 }, { name := "coder", type := .byte, accessFlags := 18, slot := 1, constantValue := 0 }, { name := "hash", type := .int, accessFlags := 2, slot := 2, constantValue := 0 }, { name := "hashIsZero", type := .boolean, accessFlags := 2, slot := 3, constantValue := 0 }, { name := "serialVersionUID", type := .long, accessFlags := 26, slot := 0, constantValue := 0 }, { name := "COMPACT_STRINGS", type := .boolean, accessFlags := 24, slot := 1, constantValue := 0 }, { name := "serialPersistentFields", type := (.array (.object "java/io/ObjectStreamField")), accessFlags := 26, slot := 2, constantValue := 0 }, { name := "REPL", type := .char, accessFlags := 26, slot := 3, constantValue := 0 }, { name := "CASE_INSENSITIVE_ORDER", type := (.object "java/util/Comparator"), accessFlags := 25, slot := 4, constantValue := 0 }, { name := "LATIN1", type := .byte, accessFlags := 24, slot := 5, constantValue := 0 }, { name := "UTF16", type := .byte, accessFlags := 24, slot := 6, constantValue := 0 }]
  methods := #[k7m0, k7m1, k7m2, k7m3, k7m4, k7m5, k7m6, k7m7, k7m8, k7m9, k7m10, k7m11]
  instanceTypes := #[(.array .byte), .byte, .int, .boolean]
  staticTypes := #[.long, .boolean, (.array (.object "java/io/ObjectStreamField")), .char, (.object "java/util/Comparator"), .byte, .byte]
  resolved := Array.replicate 1451 none
  statics := some 0 }

def pool8 : Array CpInfo := pool [(4, .class_ 6), (1, u "java/lang/Object"), (0, u "<init>"), (0, u "()V"), (5, .class_ 16), (1, u "java/lang/StringLatin1"), (0, u "inflate"), (2, .class_ 22), (1, u "java/lang/StringUTF16"), (3, .nameAndType 17 27), (0, u "([BI[BII)V"), (62, u "canEncode"), (14, u "(C)Z"), (15, u "$assertionsDisabled"), (0, u "Z"), (98, .class_ 223), (1, u "java/lang/StringLatin1$LinesSpliterator"), (16, .methodref 20 26), (40, u "equals"), (0, u "([B[B)Z"), (97, u "toBytes"), (1, u "(C)[B"), (7, .class_ 391), (0, u "java/lang/StringLatin1$CharsSpliterator")] 3

def k8m0 : Method := { name := "<init>", desc := "()V", sig := { parameters := [], returnType := none }, accessFlags := 0, code := none }
def k8c1 : Code := { maxStack := 2, maxLocals := 1, code := jdk_43_method_3_code, exceptionTable := #[], attributes := #[] }
def k8m1 : Method := { name := "canEncode", desc := "(C)Z", sig := { parameters := [.char], returnType := some .boolean }, accessFlags := 9, code := some k8c1 }
def k8c2 : Code := { maxStack := 3, maxLocals := 3, code := jdk_43_method_13_code, exceptionTable := #[], attributes := #[] }
def k8m2 : Method := { name := "equals", desc := "([B[B)Z", sig := { parameters := [(.array .byte), (.array .byte)], returnType := some .boolean }, accessFlags := 9, code := some k8c2 }
def k8c3 : Code := { maxStack := 4, maxLocals := 1, code := jdk_43_method_46_code, exceptionTable := #[], attributes := #[] }
def k8m3 : Method := { name := "toBytes", desc := "(C)[B", sig := { parameters := [.char], returnType := some (.array .byte) }, accessFlags := 9, code := some k8c3 }
def k8c4 : Code := { maxStack := 5, maxLocals := 5, code := jdk_43_method_50_code, exceptionTable := #[], attributes := #[] }
def k8m4 : Method := { name := "inflate", desc := "([BI[BII)V", sig := { parameters := [(.array .byte), .int, (.array .byte), .int, .int], returnType := none }, accessFlags := 9, code := some k8c4 }
/-- java/lang/StringLatin1 -/
def k8 : Class := { plain "java/lang/StringLatin1" (some 0) with
  accessFlags := 48
  interfaces := #[]
  cf := some (fileOf pool8 14 #[.nestMembers #[390, 221]] #[{ accessFlags := 0, nameIndex := 7, descriptorIndex := 8, attributes := #[] }, { accessFlags := 9, nameIndex := 90, descriptorIndex := 105, attributes := #[] }, { accessFlags := 9, nameIndex := 281, descriptorIndex := 282, attributes := #[] }, { accessFlags := 9, nameIndex := 380, descriptorIndex := 382, attributes := #[] }, { accessFlags := 9, nameIndex := 17, descriptorIndex := 27, attributes := #[] }] 48 4 #[] #[{ accessFlags := 4120, nameIndex := 121, descriptorIndex := 122, attributes := #[] }])
  fields := #[{ name := "$assertionsDisabled", type := .boolean, accessFlags := 4120, slot := 0, constantValue := 0 }]
  methods := #[k8m0, k8m1, k8m2, k8m3, k8m4]
  instanceTypes := #[]
  staticTypes := #[.boolean]
  resolved := Array.replicate 395 none
  statics := none }

def pool9 : Array CpInfo := pool [(3, .class_ 4), (0, u "java/lang/String"), (1, .class_ 8), (1, u "java/lang/Object"), (0, u "<init>"), (0, u "()V"), (0, .methodref 12 13), (0, .class_ 14), (0, .nameAndType 15 16), (0, u "java/lang/StringUTF16"), (0, u "newBytesLength"), (0, u "(I)I"), (3, .integer 1073741823), (23, .fieldref 12 45), (0, .nameAndType 46 47), (0, u "$assertionsDisabled"), (0, u "Z"), (0, .methodref 12 49), (0, .nameAndType 50 51), (0, u "length"), (0, u "([B)I"), (7, .fieldref 12 60), (0, .nameAndType 61 62), (0, u "HI_BYTE_SHIFT"), (0, u "I"), (0, .fieldref 12 64), (0, .nameAndType 65 62), (0, u "LO_BYTE_SHIFT"), (5, .methodref 12 72), (0, .nameAndType 73 74), (0, u "getChar"), (0, u "([BI)C"), (24, u "(II[B)V"), (7, .methodref 12 108), (0, .nameAndType 109 110), (0, u "newBytesFor"), (0, u "(I)[B"), (0, .methodref 12 112), (0, .nameAndType 113 114), (0, u "putChar"), (0, u "([BII)V"), (0, .methodref 12 116), (0, .nameAndType 117 118), (0, u "compress"), (0, u "([CI[BII)I"), (0, .methodref 12 120), (0, .nameAndType 121 122), (0, u "toBytes"), (0, u "([CII)[B"), (17, u "inflate"), (0, u "([BI[BII)V"), (31, .methodref 12 174), (0, .nameAndType 175 99), (0, u "checkBoundsOffCount"), (85, u "coderFromArrayLen"), (0, u "([BI)B"), (18, u "(III)I"), (87, .class_ 371), (1, u "java/lang/StringUTF16$LinesSpliterator"), (47, .methodref 3 420), (0, .nameAndType 175 281), (9, u "MAX_LENGTH"), (44, u "(C)[B"), (151, .class_ 628), (0, u "java/lang/StringUTF16$CodePointsSpliterator"), (0, .class_ 630), (0, u "java/lang/StringUTF16$CharsSpliterator")] 4

def k9m0 : Method := { name := "<init>", desc := "()V", sig := { parameters := [], returnType := none }, accessFlags := 0, code := none }
def k9c1 : Code := { maxStack := 1, maxLocals := 1, code := jdk_52_method_2_code, exceptionTable := #[], attributes := #[] }
def k9m1 : Method := { name := "newBytesFor", desc := "(I)[B", sig := { parameters := [.int], returnType := some (.array .byte) }, accessFlags := 9, code := some k9c1 }
def k9c2 : Code := { maxStack := 4, maxLocals := 1, code := jdk_52_method_3_code, exceptionTable := #[], attributes := #[] }
def k9m2 : Method := { name := "newBytesLength", desc := "(I)I", sig := { parameters := [.int], returnType := some .int }, accessFlags := 9, code := some k9c2 }
def k9c3 : Code := { maxStack := 4, maxLocals := 3, code := jdk_52_method_4_code, exceptionTable := #[], attributes := #[] }
def k9m3 : Method := { name := "putChar", desc := "([BII)V", sig := { parameters := [(.array .byte), .int, .int], returnType := none }, accessFlags := 8, code := some k9c3 }
def k9c4 : Code := { maxStack := 3, maxLocals := 2, code := jdk_52_method_5_code, exceptionTable := #[], attributes := #[] }
def k9m4 : Method := { name := "getChar", desc := "([BI)C", sig := { parameters := [(.array .byte), .int], returnType := some .char }, accessFlags := 8, code := some k9c4 }
def k9c5 : Code := { maxStack := 2, maxLocals := 1, code := jdk_52_method_6_code, exceptionTable := #[], attributes := #[] }
def k9m5 : Method := { name := "length", desc := "([B)I", sig := { parameters := [(.array .byte)], returnType := some .int }, accessFlags := 9, code := some k9c5 }
def k9c6 : Code := { maxStack := 4, maxLocals := 5, code := jdk_52_method_14_code, exceptionTable := #[], attributes := #[] }
def k9m6 : Method := { name := "toBytes", desc := "([CII)[B", sig := { parameters := [(.array .char), .int, .int], returnType := some (.array .byte) }, accessFlags := 9, code := some k9c6 }
def k9c7 : Code := { maxStack := 2, maxLocals := 2, code := jdk_52_method_15_code, exceptionTable := #[], attributes := #[] }
def k9m7 : Method := { name := "coderFromArrayLen", desc := "([BI)B", sig := { parameters := [(.array .byte), .int], returnType := some .byte }, accessFlags := 8, code := some k9c7 }
def k9c8 : Code := { maxStack := 5, maxLocals := 6, code := jdk_52_method_16_code, exceptionTable := #[], attributes := #[] }
def k9m8 : Method := { name := "compress", desc := "([CII)[B", sig := { parameters := [(.array .char), .int, .int], returnType := some (.array .byte) }, accessFlags := 9, code := some k9c8 }
def k9c9 : Code := { maxStack := 3, maxLocals := 7, code := jdk_52_method_21_code, exceptionTable := #[], attributes := #[] }
def k9m9 : Method := { name := "compress", desc := "([CI[BII)I", sig := { parameters := [(.array .char), .int, (.array .byte), .int, .int], returnType := some .int }, accessFlags := 9, code := some k9c9 }
def k9c10 : Code := { maxStack := 3, maxLocals := 2, code := jdk_52_method_24_code, exceptionTable := #[], attributes := #[] }
def k9m10 : Method := { name := "toBytes", desc := "(C)[B", sig := { parameters := [.char], returnType := some (.array .byte) }, accessFlags := 9, code := some k9c10 }
def k9c11 : Code := { maxStack := 4, maxLocals := 6, code := jdk_52_method_86_code, exceptionTable := #[], attributes := #[] }
def k9m11 : Method := { name := "inflate", desc := "([BI[BII)V", sig := { parameters := [(.array .byte), .int, (.array .byte), .int, .int], returnType := none }, accessFlags := 9, code := some k9c11 }
def k9c12 : Code := { maxStack := 3, maxLocals := 3, code := jdk_52_method_94_code, exceptionTable := #[], attributes := #[] }
def k9m12 : Method := { name := "checkBoundsOffCount", desc := "(II[B)V", sig := { parameters := [.int, .int, (.array .byte)], returnType := none }, accessFlags := 9, code := some k9c12 }
/-- java/lang/StringUTF16 -/
def k9 : Class := { plain "java/lang/StringUTF16" (some 0) with
  accessFlags := 48
  interfaces := #[]
  cf := some (fileOf pool9 12 #[.nestMembers #[627, 629, 369]] #[{ accessFlags := 0, nameIndex := 9, descriptorIndex := 10, attributes := #[] }, { accessFlags := 9, nameIndex := 109, descriptorIndex := 110, attributes := #[] }, { accessFlags := 9, nameIndex := 15, descriptorIndex := 16, attributes := #[] }, { accessFlags := 8, nameIndex := 113, descriptorIndex := 114, attributes := #[] }, { accessFlags := 8, nameIndex := 73, descriptorIndex := 74, attributes := #[] }, { accessFlags := 9, nameIndex := 50, descriptorIndex := 51, attributes := #[] }, { accessFlags := 9, nameIndex := 121, descriptorIndex := 122, attributes := #[] }, { accessFlags := 8, nameIndex := 261, descriptorIndex := 262, attributes := #[] }, { accessFlags := 9, nameIndex := 117, descriptorIndex := 122, attributes := #[] }, { accessFlags := 9, nameIndex := 117, descriptorIndex := 118, attributes := #[] }, { accessFlags := 9, nameIndex := 121, descriptorIndex := 475, attributes := #[] }, { accessFlags := 9, nameIndex := 140, descriptorIndex := 141, attributes := #[] }, { accessFlags := 9, nameIndex := 175, descriptorIndex := 99, attributes := #[] }] 48 6 #[] #[{ accessFlags := 26, nameIndex := 61, descriptorIndex := 62, attributes := #[] }, { accessFlags := 26, nameIndex := 65, descriptorIndex := 62, attributes := #[] }, { accessFlags := 24, nameIndex := 430, descriptorIndex := 62, attributes := #[] }, { accessFlags := 4120, nameIndex := 46, descriptorIndex := 47, attributes := #[] }])
  fields := #[{ name := "HI_BYTE_SHIFT", type := .int, accessFlags := 26, slot := 0, constantValue := 0 }, { name := "LO_BYTE_SHIFT", type := .int, accessFlags := 26, slot := 1, constantValue := 0 }, { name := "MAX_LENGTH", type := .int, accessFlags := 24, slot := 2, constantValue := 0 }, { name := "$assertionsDisabled", type := .boolean, accessFlags := 4120, slot := 3, constantValue := 0 }]
  methods := #[k9m0, k9m1, k9m2, k9m3, k9m4, k9m5, k9m6, k9m7, k9m8, k9m9, k9m10, k9m11, k9m12]
  instanceTypes := #[]
  staticTypes := #[.int, .int, .int, .boolean]
  resolved := Array.replicate 635 none
  statics := some 1 }

def pool10 : Array CpInfo := pool [(1, .methodref 2 3), (0, .class_ 4), (0, .nameAndType 5 6), (0, u "java/lang/Object"), (0, u "<init>"), (0, u "()V"), (0, .fieldref 8 9), (0, .class_ 10), (0, .nameAndType 11 12), (0, u "java/lang/Throwable"), (0, u "cause"), (0, u "Ljava/lang/Throwable;"), (0, .fieldref 8 14), (0, .nameAndType 15 16), (0, u "UNASSIGNED_STACK"), (0, u "[Ljava/lang/StackTraceElement;"), (0, .fieldref 8 18), (0, .nameAndType 19 16), (0, u "stackTrace"), (0, .fieldref 8 21), (0, .nameAndType 22 23), (0, u "SUPPRESSED_SENTINEL"), (0, u "Ljava/util/List;"), (0, .fieldref 8 25), (0, .nameAndType 26 23), (0, u "suppressedExceptions"), (4, .fieldref 8 32), (0, .nameAndType 33 34), (0, u "detailMessage"), (0, u "Ljava/lang/String;"), (3, u "()Ljava/lang/String;"), (2, u "getMessage"), (51, .class_ 94), (0, u "java/lang/Throwable$WrappedPrintStream"), (6, .class_ 103), (1, u "java/lang/Throwable$PrintStreamOrWriter"), (61, u "$assertionsDisabled"), (0, u "Z"), (26, .class_ 194), (0, u "java/lang/Throwable$WrappedPrintWriter"), (5, u "backtrace"), (0, u "Ljava/lang/Object;"), (9, u "depth"), (0, u "I"), (56, .class_ 271), (1, u "java/lang/Throwable$SentinelHolder"), (32, u "EMPTY_THROWABLE_ARRAY"), (0, u "[Ljava/lang/Throwable;"), (12, .class_ 319), (0, u "java/io/Serializable"), (0, u "serialVersionUID"), (0, u "J"), (5, u "NULL_CAUSE_MESSAGE"), (0, u "SELF_SUPPRESSION_MESSAGE"), (0, u "CAUSE_CAPTION"), (0, u "SUPPRESSED_CAPTION"), (9, u "(Ljava/lang/String;Ljava/lang/Throwable;ZZ)V")] 63

def k10m0 : Method := { name := "<init>", desc := "()V", sig := { parameters := [], returnType := none }, accessFlags := 1, code := none }
def k10c1 : Code := { maxStack := 2, maxLocals := 5, code := jdk_78_method_5_code, exceptionTable := #[], attributes := #[] }
def k10m1 : Method := { name := "<init>", desc := "(Ljava/lang/String;Ljava/lang/Throwable;ZZ)V", sig := { parameters := [(.object "java/lang/String"), (.object "java/lang/Throwable"), .boolean, .boolean], returnType := none }, accessFlags := 4, code := some k10c1 }
def k10c2 : Code := { maxStack := 1, maxLocals := 1, code := jdk_78_method_6_code, exceptionTable := #[], attributes := #[] }
def k10m2 : Method := { name := "getMessage", desc := "()Ljava/lang/String;", sig := { parameters := [], returnType := some (.object "java/lang/String") }, accessFlags := 1, code := some k10c2 }
/-- java/lang/Throwable -/
def k10 : Class := { plain "java/lang/Throwable" (some 0) with
  accessFlags := 33
  interfaces := #[2]
  cf := some (fileOf pool10 8 #[.nestMembers #[193, 93, 101, 269]] #[{ accessFlags := 1, nameIndex := 5, descriptorIndex := 6, attributes := #[] }, { accessFlags := 4, nameIndex := 5, descriptorIndex := 340, attributes := #[] }, { accessFlags := 1, nameIndex := 41, descriptorIndex := 38, attributes := #[] }] 33 2 #[318] #[{ accessFlags := 26, nameIndex := 320, descriptorIndex := 321, attributes := #[] }, { accessFlags := 130, nameIndex := 200, descriptorIndex := 201, attributes := #[] }, { accessFlags := 2, nameIndex := 33, descriptorIndex := 34, attributes := #[] }, { accessFlags := 26, nameIndex := 15, descriptorIndex := 16, attributes := #[] }, { accessFlags := 2, nameIndex := 11, descriptorIndex := 12, attributes := #[] }, { accessFlags := 2, nameIndex := 19, descriptorIndex := 16, attributes := #[] }, { accessFlags := 130, nameIndex := 211, descriptorIndex := 212, attributes := #[] }, { accessFlags := 26, nameIndex := 22, descriptorIndex := 23, attributes := #[] }, { accessFlags := 2, nameIndex := 26, descriptorIndex := 23, attributes := #[] }, { accessFlags := 26, nameIndex := 327, descriptorIndex := 34, attributes := #[] }, { accessFlags := 26, nameIndex := 328, descriptorIndex := 34, attributes := #[] }, { accessFlags := 26, nameIndex := 329, descriptorIndex := 34, attributes := #[] }, { accessFlags := 26, nameIndex := 330, descriptorIndex := 34, attributes := #[] }, { accessFlags := 26, nameIndex := 304, descriptorIndex := 305, attributes := #[] }, { accessFlags := 4120, nameIndex := 165, descriptorIndex := 166, attributes := #[] }])
  fields := #[{ name := "serialVersionUID", type := .long, accessFlags := 26, slot := 0, constantValue := 0 }, { name := "backtrace", type := (.object "java/lang/Object"), accessFlags := 130, slot := 0, constantValue := 0 }, { name := "detailMessage", type := (.object "java/lang/String"), accessFlags := 2, slot := 1, constantValue := 0 }, { name := "UNASSIGNED_STACK", type := (.array (.object "java/lang/StackTraceElement")), accessFlags := 26, slot := 1, constantValue := 0 }, { name := "cause", type := (.object "java/lang/Throwable"), accessFlags := 2, slot := 2, constantValue := 0 }, { name := "stackTrace", type := (.array (.object "java/lang/StackTraceElement")), accessFlags := 2, slot := 3, constantValue := 0 }, { name := "depth", type := .int, accessFlags := 130, slot := 4, constantValue := 0 }, { name := "SUPPRESSED_SENTINEL", type := (.object "java/util/List"), accessFlags := 26, slot := 2, constantValue := 0 }, { name := "suppressedExceptions", type := (.object "java/util/List"), accessFlags := 2, slot := 5, constantValue := 0 }, { name := "NULL_CAUSE_MESSAGE", type := (.object "java/lang/String"), accessFlags := 26, slot := 3, constantValue := 0 }, { name := "SELF_SUPPRESSION_MESSAGE", type := (.object "java/lang/String"), accessFlags := 26, slot := 4, constantValue := 0 }, { name := "CAUSE_CAPTION", type := (.object "java/lang/String"), accessFlags := 26, slot := 5, constantValue := 0 }, { name := "SUPPRESSED_CAPTION", type := (.object "java/lang/String"), accessFlags := 26, slot := 6, constantValue := 0 }, { name := "EMPTY_THROWABLE_ARRAY", type := (.array (.object "java/lang/Throwable")), accessFlags := 26, slot := 7, constantValue := 0 }, { name := "$assertionsDisabled", type := .boolean, accessFlags := 4120, slot := 8, constantValue := 0 }]
  methods := #[k10m0, k10m1, k10m2]
  instanceTypes := #[(.object "java/lang/Object"), (.object "java/lang/String"), (.object "java/lang/Throwable"), (.array (.object "java/lang/StackTraceElement")), .int, (.object "java/util/List")]
  staticTypes := #[.long, (.array (.object "java/lang/StackTraceElement")), (.object "java/util/List"), (.object "java/lang/String"), (.object "java/lang/String"), (.object "java/lang/String"), (.object "java/lang/String"), (.array (.object "java/lang/Throwable")), .boolean]
  resolved := Array.replicate 404 none
  statics := some 2 }

def pool11 : Array CpInfo := pool [(2, .class_ 4), (1, u "java/lang/Throwable"), (0, u "<init>"), (0, u "()V"), (9, .methodref 2 17), (0, .nameAndType 5 18), (0, u "(Ljava/lang/String;Ljava/lang/Throwable;ZZ)V"), (0, .class_ 20), (0, u "java/lang/Exception"), (0, u "serialVersionUID"), (0, u "J")] 17

def k11m0 : Method := { name := "<init>", desc := "()V", sig := { parameters := [], returnType := none }, accessFlags := 1, code := none }
def k11c1 : Code := { maxStack := 5, maxLocals := 5, code := jdk_59_method_5_code, exceptionTable := #[], attributes := #[] }
def k11m1 : Method := { name := "<init>", desc := "(Ljava/lang/String;Ljava/lang/Throwable;ZZ)V", sig := { parameters := [(.object "java/lang/String"), (.object "java/lang/Throwable"), .boolean, .boolean], returnType := none }, accessFlags := 4, code := some k11c1 }
/-- java/lang/Exception -/
def k11 : Class := { plain "java/lang/Exception" (some 10) with
  accessFlags := 33
  interfaces := #[]
  cf := some (fileOf pool11 19 #[] #[{ accessFlags := 1, nameIndex := 5, descriptorIndex := 6, attributes := #[] }, { accessFlags := 4, nameIndex := 5, descriptorIndex := 18, attributes := #[] }] 33 2 #[] #[{ accessFlags := 24, nameIndex := 21, descriptorIndex := 22, attributes := #[] }])
  fields := #[{ name := "serialVersionUID", type := .long, accessFlags := 24, slot := 0, constantValue := 0 }]
  methods := #[k11m0, k11m1]
  instanceTypes := #[(.object "java/lang/Object"), (.object "java/lang/String"), (.object "java/lang/Throwable"), (.array (.object "java/lang/StackTraceElement")), .int, (.object "java/util/List")]
  staticTypes := #[.long]
  resolved := Array.replicate 40 none
  statics := none }

def pool12 : Array CpInfo := pool [(1, .class_ 2), (0, u "com/example/spool/spool/http/HttpError"), (2, .methodref 1 6), (0, .nameAndType 7 8), (0, u "<init>"), (0, u "(ILjava/lang/String;Ljava/lang/String;)V"), (7, u "(Ljava/lang/String;)Lcom/example/spool/spool/http/HttpError;"), (8, .string 26), (0, u "method_not_allowed"), (0, .class_ 28), (0, u "java/lang/StringBuilder"), (0, .methodref 27 30), (0, .nameAndType 7 31), (0, u "()V"), (0, .string 33), (0, u "This path answers "), (0, .methodref 27 35), (0, .nameAndType 36 37), (0, u "append"), (0, u "(Ljava/lang/String;)Ljava/lang/StringBuilder;"), (0, .string 39), (0, u " only."), (0, .methodref 27 41), (0, .nameAndType 42 43), (0, u "toString"), (0, u "()Ljava/lang/String;"), (0, .fieldref 1 45), (0, .nameAndType 46 47), (0, u "_allowed"), (0, u "Ljava/lang/String;"), (0, .methodref 49 50), (0, .class_ 51), (0, .nameAndType 7 52), (0, u "java/lang/Exception"), (0, u "(Ljava/lang/String;Ljava/lang/Throwable;ZZ)V"), (0, .fieldref 1 54), (0, .nameAndType 55 56), (0, u "_status"), (0, u "I"), (0, .fieldref 1 58), (0, .nameAndType 59 47), (0, u "_code"), (0, u "serialVersionUID"), (0, u "J"), (11, u "methodNotAllowed"), (0, u "status"), (0, u "()I"), (0, u "code"), (0, u "allowed")] 2

def k12c0 : Code := { maxStack := 6, maxLocals := 2, code := prog_2_method_8_code, exceptionTable := #[], attributes := #[] }
def k12m0 : Method := { name := "methodNotAllowed", desc := "(Ljava/lang/String;)Lcom/example/spool/spool/http/HttpError;", sig := { parameters := [(.object "java/lang/String")], returnType := some (.object "com/example/spool/spool/http/HttpError") }, accessFlags := 8, code := some k12c0 }
def k12c1 : Code := { maxStack := 5, maxLocals := 4, code := prog_2_method_9_code, exceptionTable := #[], attributes := #[] }
def k12m1 : Method := { name := "<init>", desc := "(ILjava/lang/String;Ljava/lang/String;)V", sig := { parameters := [.int, (.object "java/lang/String"), (.object "java/lang/String")], returnType := none }, accessFlags := 0, code := some k12c1 }
def k12c2 : Code := { maxStack := 1, maxLocals := 1, code := prog_2_method_10_code, exceptionTable := #[], attributes := #[] }
def k12m2 : Method := { name := "status", desc := "()I", sig := { parameters := [], returnType := some .int }, accessFlags := 0, code := some k12c2 }
def k12c3 : Code := { maxStack := 1, maxLocals := 1, code := prog_2_method_11_code, exceptionTable := #[], attributes := #[] }
def k12m3 : Method := { name := "code", desc := "()Ljava/lang/String;", sig := { parameters := [], returnType := some (.object "java/lang/String") }, accessFlags := 0, code := some k12c3 }
def k12c4 : Code := { maxStack := 1, maxLocals := 1, code := prog_2_method_12_code, exceptionTable := #[], attributes := #[] }
def k12m4 : Method := { name := "allowed", desc := "()Ljava/lang/String;", sig := { parameters := [], returnType := some (.object "java/lang/String") }, accessFlags := 0, code := some k12c4 }
/-- com/example/spool/spool/http/HttpError -/
def k12 : Class := { plain "com/example/spool/spool/http/HttpError" (some 11) with
  accessFlags := 48
  interfaces := #[]
  cf := some (fileOf pool12 1 #[] #[{ accessFlags := 8, nameIndex := 73, descriptorIndex := 16, attributes := #[] }, { accessFlags := 0, nameIndex := 7, descriptorIndex := 8, attributes := #[] }, { accessFlags := 0, nameIndex := 74, descriptorIndex := 75, attributes := #[] }, { accessFlags := 0, nameIndex := 76, descriptorIndex := 43, attributes := #[] }, { accessFlags := 0, nameIndex := 77, descriptorIndex := 43, attributes := #[] }] 48 49 #[] #[{ accessFlags := 18, nameIndex := 55, descriptorIndex := 56, attributes := #[] }, { accessFlags := 18, nameIndex := 59, descriptorIndex := 47, attributes := #[] }, { accessFlags := 2, nameIndex := 46, descriptorIndex := 47, attributes := #[] }, { accessFlags := 26, nameIndex := 60, descriptorIndex := 61, attributes := #[] }])
  fields := #[{ name := "_status", type := .int, accessFlags := 18, slot := 6, constantValue := 0 }, { name := "_code", type := (.object "java/lang/String"), accessFlags := 18, slot := 7, constantValue := 0 }, { name := "_allowed", type := (.object "java/lang/String"), accessFlags := 2, slot := 8, constantValue := 0 }, { name := "serialVersionUID", type := .long, accessFlags := 26, slot := 0, constantValue := 0 }]
  methods := #[k12m0, k12m1, k12m2, k12m3, k12m4]
  instanceTypes := #[(.object "java/lang/Object"), (.object "java/lang/String"), (.object "java/lang/Throwable"), (.array (.object "java/lang/StackTraceElement")), .int, (.object "java/util/List"), .int, (.object "java/lang/String"), (.object "java/lang/String")]
  staticTypes := #[.long]
  resolved := Array.replicate 80 none
  statics := none }

def pool13 : Array CpInfo := pool [(1, .class_ 2), (0, u "java/lang/Appendable"), (0, .class_ 4), (0, u "java/lang/Object")] 9

/-- java/lang/Appendable -/
def k13 : Class := { plain "java/lang/Appendable" (some 0) with
  accessFlags := 1537
  interfaces := #[]
  cf := some (fileOf pool13 1 #[] #[] 1537 3 #[] #[])
  fields := #[]
  methods := #[]
  instanceTypes := #[]
  staticTypes := #[]
  resolved := Array.replicate 14 none
  statics := none }

def pool14 : Array CpInfo := pool [(1, .class_ 2), (0, u "java/lang/String"), (0, .methodref 4 5), (0, .class_ 6), (0, .nameAndType 7 8), (0, u "java/lang/Object"), (0, u "<init>"), (0, u "()V"), (1, .class_ 12), (1, u "java/lang/AbstractStringBuilder"), (0, u "EMPTYVALUE"), (0, u "[B"), (0, .fieldref 10 16), (0, .nameAndType 17 14), (0, u "value"), (0, .fieldref 1 19), (0, .nameAndType 20 21), (0, u "COMPACT_STRINGS"), (0, u "Z"), (0, .fieldref 10 23), (0, .nameAndType 24 25), (0, u "coder"), (0, u "B"), (0, .methodref 27 28), (0, .class_ 29), (0, .nameAndType 30 31), (0, u "java/lang/StringUTF16"), (0, u "newBytesFor"), (0, u "(I)[B"), (0, .methodref 1 33), (0, .nameAndType 34 35), (0, u "length"), (0, u "()I"), (3, .integer 2147483647), (0, .methodref 1 41), (0, .nameAndType 24 42), (0, u "()B"), (2, u "append"), (0, u "(Ljava/lang/String;)Ljava/lang/AbstractStringBuilder;"), (1, .class_ 49), (0, u "java/lang/CharSequence"), (19, u "(Ljava/lang/String;)V"), (5, u "maybeLatin1"), (3, .fieldref 10 80), (0, .nameAndType 81 82), (0, u "count"), (0, u "I"), (0, .methodref 10 84), (0, .nameAndType 85 86), (0, u "isLatin1"), (0, u "()Z"), (1, .class_ 90), (1, u "java/lang/StringLatin1"), (9, .methodref 10 101), (0, .nameAndType 102 103), (0, u "ensureCapacityInternal"), (0, u "(I)V"), (0, .methodref 10 105), (0, .nameAndType 106 107), (0, u "newCapacity"), (0, u "(I)I"), (0, .methodref 109 110), (0, .class_ 111), (0, .nameAndType 112 113), (0, u "java/util/Arrays"), (0, u "copyOf"), (0, u "([BI)[B"), (0, .methodref 115 116), (0, .class_ 117), (0, .nameAndType 118 119), (0, u "jdk/internal/util/ArraysSupport"), (0, u "newLength"), (0, u "(III)I"), (5, .methodref 88 126), (0, .nameAndType 127 128), (0, u "inflate"), (0, u "([BI[BII)V"), (66, .methodref 10 196), (0, .nameAndType 127 8), (11, .methodref 10 209), (0, .nameAndType 210 211), (0, u "putStringAt"), (0, u "(ILjava/lang/String;)V"), (5, u "inflateIfNeededFor"), (2, .nameAndType 221 222), (0, u "getBytes"), (0, u "([BIB)V"), (174, .methodref 10 398), (0, .nameAndType 217 69), (0, .methodref 1 220), (3, u "()[B"), (40, .class_ 445), (0, u "java/lang/Appendable"), (106, u "getValue")] 56

def k14m0 : Method := { name := "<init>", desc := "()V", sig := { parameters := [], returnType := none }, accessFlags := 0, code := none }
def k14c1 : Code := { maxStack := 2, maxLocals := 2, code := jdk_68_method_2_code, exceptionTable := #[], attributes := #[] }
def k14m1 : Method := { name := "<init>", desc := "(I)V", sig := { parameters := [.int], returnType := none }, accessFlags := 0, code := some k14c1 }
def k14c2 : Code := { maxStack := 1, maxLocals := 1, code := jdk_68_method_6_code, exceptionTable := #[], attributes := #[] }
def k14m2 : Method := { name := "length", desc := "()I", sig := { parameters := [], returnType := some .int }, accessFlags := 1, code := some k14c2 }
def k14c3 : Code := { maxStack := 4, maxLocals := 3, code := jdk_68_method_9_code, exceptionTable := #[], attributes := #[] }
def k14m3 : Method := { name := "ensureCapacityInternal", desc := "(I)V", sig := { parameters := [.int], returnType := none }, accessFlags := 2, code := some k14c3 }
def k14c4 : Code := { maxStack := 5, maxLocals := 6, code := jdk_68_method_10_code, exceptionTable := #[], attributes := #[] }
def k14m4 : Method := { name := "newCapacity", desc := "(I)I", sig := { parameters := [.int], returnType := some .int }, accessFlags := 2, code := some k14c4 }
def k14c5 : Code := { maxStack := 5, maxLocals := 2, code := jdk_68_method_11_code, exceptionTable := #[], attributes := #[] }
def k14m5 : Method := { name := "inflate", desc := "()V", sig := { parameters := [], returnType := none }, accessFlags := 2, code := some k14c5 }
def k14c6 : Code := { maxStack := 3, maxLocals := 3, code := jdk_68_method_22_code, exceptionTable := #[], attributes := #[] }
def k14m6 : Method := { name := "append", desc := "(Ljava/lang/String;)Ljava/lang/AbstractStringBuilder;", sig := { parameters := [(.object "java/lang/String")], returnType := some (.object "java/lang/AbstractStringBuilder") }, accessFlags := 1, code := some k14c6 }
def k14c7 : Code := { maxStack := 1, maxLocals := 1, code := jdk_68_method_64_code, exceptionTable := #[], attributes := #[] }
def k14m7 : Method := { name := "getValue", desc := "()[B", sig := { parameters := [], returnType := some (.array .byte) }, accessFlags := 16, code := some k14c7 }
def k14c8 : Code := { maxStack := 1, maxLocals := 1, code := jdk_68_method_68_code, exceptionTable := #[], attributes := #[] }
def k14m8 : Method := { name := "isLatin1", desc := "()Z", sig := { parameters := [], returnType := some .boolean }, accessFlags := 16, code := some k14c8 }
def k14c9 : Code := { maxStack := 2, maxLocals := 2, code := jdk_68_method_71_code, exceptionTable := #[], attributes := #[] }
def k14m9 : Method := { name := "inflateIfNeededFor", desc := "(Ljava/lang/String;)V", sig := { parameters := [(.object "java/lang/String")], returnType := none }, accessFlags := 2, code := some k14c9 }
def k14c10 : Code := { maxStack := 4, maxLocals := 3, code := jdk_68_method_73_code, exceptionTable := #[], attributes := #[] }
def k14m10 : Method := { name := "putStringAt", desc := "(ILjava/lang/String;)V", sig := { parameters := [.int, (.object "java/lang/String")], returnType := none }, accessFlags := 2, code := some k14c10 }
/-- java/lang/AbstractStringBuilder -/
def k14 : Class := { plain "java/lang/AbstractStringBuilder" (some 0) with
  accessFlags := 1056
  interfaces := #[13, 4]
  cf := some (fileOf pool14 10 #[] #[{ accessFlags := 0, nameIndex := 7, descriptorIndex := 8, attributes := #[] }, { accessFlags := 0, nameIndex := 7, descriptorIndex := 103, attributes := #[] }, { accessFlags := 1, nameIndex := 34, descriptorIndex := 35, attributes := #[] }, { accessFlags := 2, nameIndex := 102, descriptorIndex := 103, attributes := #[] }, { accessFlags := 2, nameIndex := 106, descriptorIndex := 107, attributes := #[] }, { accessFlags := 2, nameIndex := 127, descriptorIndex := 8, attributes := #[] }, { accessFlags := 1, nameIndex := 45, descriptorIndex := 46, attributes := #[] }, { accessFlags := 16, nameIndex := 552, descriptorIndex := 403, attributes := #[] }, { accessFlags := 16, nameIndex := 85, descriptorIndex := 86, attributes := #[] }, { accessFlags := 2, nameIndex := 217, descriptorIndex := 69, attributes := #[] }, { accessFlags := 2, nameIndex := 210, descriptorIndex := 211, attributes := #[] }] 1056 4 #[444, 48] #[{ accessFlags := 0, nameIndex := 17, descriptorIndex := 14, attributes := #[] }, { accessFlags := 0, nameIndex := 24, descriptorIndex := 25, attributes := #[] }, { accessFlags := 0, nameIndex := 75, descriptorIndex := 21, attributes := #[] }, { accessFlags := 0, nameIndex := 81, descriptorIndex := 82, attributes := #[] }, { accessFlags := 26, nameIndex := 13, descriptorIndex := 14, attributes := #[] }])
  fields := #[{ name := "value", type := (.array .byte), accessFlags := 0, slot := 0, constantValue := 0 }, { name := "coder", type := .byte, accessFlags := 0, slot := 1, constantValue := 0 }, { name := "maybeLatin1", type := .boolean, accessFlags := 0, slot := 2, constantValue := 0 }, { name := "count", type := .int, accessFlags := 0, slot := 3, constantValue := 0 }, { name := "EMPTYVALUE", type := (.array .byte), accessFlags := 26, slot := 0, constantValue := 0 }]
  methods := #[k14m0, k14m1, k14m2, k14m3, k14m4, k14m5, k14m6, k14m7, k14m8, k14m9, k14m10]
  instanceTypes := #[(.array .byte), .byte, .boolean, .int]
  staticTypes := #[(.array .byte)]
  resolved := Array.replicate 609 none
  statics := none }

def pool15 : Array CpInfo := pool [(1, .methodref 2 3), (0, .class_ 4), (0, .nameAndType 5 6), (0, u "java/lang/AbstractStringBuilder"), (0, u "<init>"), (0, u "(I)V"), (11, .class_ 20), (1, u "java/lang/String"), (3, .class_ 26), (1, u "java/lang/StringBuilder"), (0, u "append"), (0, u "(Ljava/lang/String;)Ljava/lang/StringBuilder;"), (0, .methodref 2 30), (0, .nameAndType 27 31), (0, u "(Ljava/lang/String;)Ljava/lang/AbstractStringBuilder;"), (105, .methodref 18 138), (0, .nameAndType 5 139), (0, u "(Ljava/lang/StringBuilder;)V"), (5, u "()V"), (10, u "()I"), (186, .methodref 2 344), (0, .nameAndType 345 156), (0, u "length"), (3, .class_ 350), (0, u "java/lang/Appendable"), (0, .class_ 352), (0, u "java/io/Serializable"), (0, .class_ 354), (0, u "java/lang/Comparable"), (0, .class_ 356), (0, u "java/lang/CharSequence"), (0, u "serialVersionUID"), (0, u "J"), (40, u "toString"), (0, u "()Ljava/lang/String;")] 21

def k15c0 : Code := { maxStack := 2, maxLocals := 1, code := jdk_67_method_1_code, exceptionTable := #[], attributes := #[] }
def k15m0 : Method := { name := "<init>", desc := "()V", sig := { parameters := [], returnType := none }, accessFlags := 1, code := some k15c0 }
def k15c1 : Code := { maxStack := 2, maxLocals := 2, code := jdk_67_method_7_code, exceptionTable := #[], attributes := #[] }
def k15m1 : Method := { name := "append", desc := "(Ljava/lang/String;)Ljava/lang/StringBuilder;", sig := { parameters := [(.object "java/lang/String")], returnType := some (.object "java/lang/StringBuilder") }, accessFlags := 1, code := some k15c1 }
def k15c2 : Code := { maxStack := 3, maxLocals := 1, code := jdk_67_method_42_code, exceptionTable := #[], attributes := #[] }
def k15m2 : Method := { name := "toString", desc := "()Ljava/lang/String;", sig := { parameters := [], returnType := some (.object "java/lang/String") }, accessFlags := 1, code := some k15c2 }
def k15c3 : Code := { maxStack := 1, maxLocals := 1, code := jdk_67_method_93_code, exceptionTable := #[], attributes := #[] }
def k15m3 : Method := { name := "length", desc := "()I", sig := { parameters := [], returnType := some .int }, accessFlags := 4161, code := some k15c3 }
/-- java/lang/StringBuilder -/
def k15 : Class := { plain "java/lang/StringBuilder" (some 14) with
  accessFlags := 49
  interfaces := #[13, 2, 3, 4]
  cf := some (fileOf pool15 24 #[] #[{ accessFlags := 1, nameIndex := 5, descriptorIndex := 145, attributes := #[] }, { accessFlags := 1, nameIndex := 27, descriptorIndex := 28, attributes := #[] }, { accessFlags := 1, nameIndex := 399, descriptorIndex := 400, attributes := #[] }, { accessFlags := 4161, nameIndex := 345, descriptorIndex := 156, attributes := #[] }] 49 2 #[349, 351, 353, 355] #[{ accessFlags := 24, nameIndex := 357, descriptorIndex := 358, attributes := #[] }])
  fields := #[{ name := "serialVersionUID", type := .long, accessFlags := 24, slot := 0, constantValue := 0 }]
  methods := #[k15m0, k15m1, k15m2, k15m3]
  instanceTypes := #[(.array .byte), .byte, .boolean, .int]
  staticTypes := #[.long]
  resolved := Array.replicate 422 none
  statics := none }

def pool16 : Array CpInfo := pool [(9, u "<init>"), (6, .class_ 18), (1, u "java/lang/Object"), (0, u "()V"), (1, .class_ 23), (1, u "jdk/internal/util/ArraysSupport"), (0, u "LOG2_ARRAY_LONG_INDEX_SCALE"), (0, u "I"), (2, u "U"), (0, u "Ljdk/internal/misc/Unsafe;"), (8, u "BIG_ENDIAN"), (0, u "Z"), (8, u "LOG2_BYTE_BIT_SIZE"), (4, u "LOG2_ARRAY_INT_INDEX_SCALE"), (54, u "JLA"), (0, u "Ljdk/internal/access/JavaLangAccess;"), (11, u "LOG2_ARRAY_BOOLEAN_INDEX_SCALE"), (9, u "LOG2_ARRAY_BYTE_INDEX_SCALE"), (5, u "LOG2_ARRAY_CHAR_INDEX_SCALE"), (5, u "LOG2_ARRAY_SHORT_INDEX_SCALE"), (18, u "LOG2_ARRAY_FLOAT_INDEX_SCALE"), (24, u "LOG2_ARRAY_DOUBLE_INDEX_SCALE"), (6, .methodref 195 196), (0, .class_ 197), (0, .nameAndType 198 199), (0, u "java/lang/Math"), (0, u "max"), (0, u "(II)I"), (0, .integer 2147483639), (76, u "T_BOOLEAN"), (2, u "T_CHAR"), (1, u "T_FLOAT"), (1, u "T_DOUBLE"), (1, u "T_BYTE"), (1, u "T_SHORT"), (1, u "T_INT"), (1, u "T_LONG"), (1, u "SOFT_MAX_ARRAY_LENGTH"), (56, u "newLength"), (0, u "(III)I")] 25

def k16m0 : Method := { name := "<init>", desc := "()V", sig := { parameters := [], returnType := none }, accessFlags := 2, code := none }
def k16c1 : Code := { maxStack := 3, maxLocals := 4, code := jdk_48_method_27_code, exceptionTable := #[], attributes := #[] }
def k16m1 : Method := { name := "newLength", desc := "(III)I", sig := { parameters := [.int, .int, .int], returnType := some .int }, accessFlags := 9, code := some k16c1 }
/-- jdk/internal/util/ArraysSupport -/
def k16 : Class := { plain "jdk/internal/util/ArraysSupport" (some 0) with
  accessFlags := 33
  interfaces := #[]
  cf := some (fileOf pool16 21 #[] #[{ accessFlags := 2, nameIndex := 9, descriptorIndex := 19, attributes := #[] }, { accessFlags := 9, nameIndex := 351, descriptorIndex := 352, attributes := #[] }] 33 16 #[] #[{ accessFlags := 24, nameIndex := 28, descriptorIndex := 29, attributes := #[] }, { accessFlags := 26, nameIndex := 38, descriptorIndex := 39, attributes := #[] }, { accessFlags := 25, nameIndex := 121, descriptorIndex := 25, attributes := #[] }, { accessFlags := 25, nameIndex := 131, descriptorIndex := 25, attributes := #[] }, { accessFlags := 25, nameIndex := 137, descriptorIndex := 25, attributes := #[] }, { accessFlags := 25, nameIndex := 143, descriptorIndex := 25, attributes := #[] }, { accessFlags := 25, nameIndex := 53, descriptorIndex := 25, attributes := #[] }, { accessFlags := 25, nameIndex := 24, descriptorIndex := 25, attributes := #[] }, { accessFlags := 25, nameIndex := 162, descriptorIndex := 25, attributes := #[] }, { accessFlags := 25, nameIndex := 187, descriptorIndex := 25, attributes := #[] }, { accessFlags := 26, nameIndex := 48, descriptorIndex := 25, attributes := #[] }, { accessFlags := 25, nameIndex := 277, descriptorIndex := 25, attributes := #[] }, { accessFlags := 25, nameIndex := 280, descriptorIndex := 25, attributes := #[] }, { accessFlags := 25, nameIndex := 282, descriptorIndex := 25, attributes := #[] }, { accessFlags := 25, nameIndex := 284, descriptorIndex := 25, attributes := #[] }, { accessFlags := 25, nameIndex := 286, descriptorIndex := 25, attributes := #[] }, { accessFlags := 25, nameIndex := 288, descriptorIndex := 25, attributes := #[] }, { accessFlags := 25, nameIndex := 290, descriptorIndex := 25, attributes := #[] }, { accessFlags := 25, nameIndex := 292, descriptorIndex := 25, attributes := #[] }, { accessFlags := 26, nameIndex := 108, descriptorIndex := 109, attributes := #[] }, { accessFlags := 25, nameIndex := 294, descriptorIndex := 25, attributes := #[] }])
  fields := #[{ name := "U", type := (.object "jdk/internal/misc/Unsafe"), accessFlags := 24, slot := 0, constantValue := 0 }, { name := "BIG_ENDIAN", type := .boolean, accessFlags := 26, slot := 1, constantValue := 0 }, { name := "LOG2_ARRAY_BOOLEAN_INDEX_SCALE", type := .int, accessFlags := 25, slot := 2, constantValue := 0 }, { name := "LOG2_ARRAY_BYTE_INDEX_SCALE", type := .int, accessFlags := 25, slot := 3, constantValue := 0 }, { name := "LOG2_ARRAY_CHAR_INDEX_SCALE", type := .int, accessFlags := 25, slot := 4, constantValue := 0 }, { name := "LOG2_ARRAY_SHORT_INDEX_SCALE", type := .int, accessFlags := 25, slot := 5, constantValue := 0 }, { name := "LOG2_ARRAY_INT_INDEX_SCALE", type := .int, accessFlags := 25, slot := 6, constantValue := 0 }, { name := "LOG2_ARRAY_LONG_INDEX_SCALE", type := .int, accessFlags := 25, slot := 7, constantValue := 0 }, { name := "LOG2_ARRAY_FLOAT_INDEX_SCALE", type := .int, accessFlags := 25, slot := 8, constantValue := 0 }, { name := "LOG2_ARRAY_DOUBLE_INDEX_SCALE", type := .int, accessFlags := 25, slot := 9, constantValue := 0 }, { name := "LOG2_BYTE_BIT_SIZE", type := .int, accessFlags := 26, slot := 10, constantValue := 0 }, { name := "T_BOOLEAN", type := .int, accessFlags := 25, slot := 11, constantValue := 0 }, { name := "T_CHAR", type := .int, accessFlags := 25, slot := 12, constantValue := 0 }, { name := "T_FLOAT", type := .int, accessFlags := 25, slot := 13, constantValue := 0 }, { name := "T_DOUBLE", type := .int, accessFlags := 25, slot := 14, constantValue := 0 }, { name := "T_BYTE", type := .int, accessFlags := 25, slot := 15, constantValue := 0 }, { name := "T_SHORT", type := .int, accessFlags := 25, slot := 16, constantValue := 0 }, { name := "T_INT", type := .int, accessFlags := 25, slot := 17, constantValue := 0 }, { name := "T_LONG", type := .int, accessFlags := 25, slot := 18, constantValue := 0 }, { name := "JLA", type := (.object "jdk/internal/access/JavaLangAccess"), accessFlags := 26, slot := 19, constantValue := 0 }, { name := "SOFT_MAX_ARRAY_LENGTH", type := .int, accessFlags := 25, slot := 20, constantValue := 0 }]
  methods := #[k16m0, k16m1]
  instanceTypes := #[]
  staticTypes := #[(.object "jdk/internal/misc/Unsafe"), .boolean, .int, .int, .int, .int, .int, .int, .int, .int, .int, .int, .int, .int, .int, .int, .int, .int, .int, (.object "jdk/internal/access/JavaLangAccess"), .int]
  resolved := Array.replicate 378 none
  statics := none }

def pool17 : Array CpInfo := pool [(1, .class_ 2), (0, u "java/lang/Math"), (1, .class_ 6), (1, u "java/lang/Object"), (0, u "<init>"), (0, u "()V"), (89, .class_ 100), (1, u "java/lang/Math$RandomNumberGeneratorHolder"), (71, u "negativeZeroFloatBits"), (0, u "J"), (2, u "negativeZeroDoubleBits"), (21, u "max"), (2, u "min"), (43, u "$assertionsDisabled"), (0, u "Z"), (88, u "(II)I"), (2, u "twoToTheDoubleScaleDown"), (0, u "D"), (4, u "twoToTheDoubleScaleUp"), (9, u "E"), (3, u "PI"), (2, u "TAU"), (2, u "DEGREES_TO_RADIANS"), (0, u "RADIANS_TO_DEGREES")] 94

def k17m0 : Method := { name := "<init>", desc := "()V", sig := { parameters := [], returnType := none }, accessFlags := 2, code := none }
def k17c1 : Code := { maxStack := 2, maxLocals := 2, code := jdk_29_method_65_code, exceptionTable := #[], attributes := #[] }
def k17m1 : Method := { name := "max", desc := "(II)I", sig := { parameters := [.int, .int], returnType := some .int }, accessFlags := 9, code := some k17c1 }
def k17c2 : Code := { maxStack := 2, maxLocals := 2, code := jdk_29_method_69_code, exceptionTable := #[], attributes := #[] }
def k17m2 : Method := { name := "min", desc := "(II)I", sig := { parameters := [.int, .int], returnType := some .int }, accessFlags := 9, code := some k17c2 }
/-- java/lang/Math -/
def k17 : Class := { plain "java/lang/Math" (some 0) with
  accessFlags := 49
  interfaces := #[]
  cf := some (fileOf pool17 1 #[.nestMembers #[98]] #[{ accessFlags := 2, nameIndex := 7, descriptorIndex := 8, attributes := #[] }, { accessFlags := 9, nameIndex := 198, descriptorIndex := 335, attributes := #[] }, { accessFlags := 9, nameIndex := 201, descriptorIndex := 335, attributes := #[] }] 49 4 #[] #[{ accessFlags := 25, nameIndex := 354, descriptorIndex := 339, attributes := #[] }, { accessFlags := 25, nameIndex := 358, descriptorIndex := 339, attributes := #[] }, { accessFlags := 25, nameIndex := 361, descriptorIndex := 339, attributes := #[] }, { accessFlags := 26, nameIndex := 364, descriptorIndex := 339, attributes := #[] }, { accessFlags := 26, nameIndex := 365, descriptorIndex := 339, attributes := #[] }, { accessFlags := 26, nameIndex := 172, descriptorIndex := 173, attributes := #[] }, { accessFlags := 26, nameIndex := 176, descriptorIndex := 173, attributes := #[] }, { accessFlags := 8, nameIndex := 344, descriptorIndex := 339, attributes := #[] }, { accessFlags := 8, nameIndex := 338, descriptorIndex := 339, attributes := #[] }, { accessFlags := 4120, nameIndex := 245, descriptorIndex := 246, attributes := #[] }])
  fields := #[{ name := "E", type := .double, accessFlags := 25, slot := 0, constantValue := 0 }, { name := "PI", type := .double, accessFlags := 25, slot := 1, constantValue := 0 }, { name := "TAU", type := .double, accessFlags := 25, slot := 2, constantValue := 0 }, { name := "DEGREES_TO_RADIANS", type := .double, accessFlags := 26, slot := 3, constantValue := 0 }, { name := "RADIANS_TO_DEGREES", type := .double, accessFlags := 26, slot := 4, constantValue := 0 }, { name := "negativeZeroFloatBits", type := .long, accessFlags := 26, slot := 5, constantValue := 0 }, { name := "negativeZeroDoubleBits", type := .long, accessFlags := 26, slot := 6, constantValue := 0 }, { name := "twoToTheDoubleScaleUp", type := .double, accessFlags := 8, slot := 7, constantValue := 0 }, { name := "twoToTheDoubleScaleDown", type := .double, accessFlags := 8, slot := 8, constantValue := 0 }, { name := "$assertionsDisabled", type := .boolean, accessFlags := 4120, slot := 9, constantValue := 0 }]
  methods := #[k17m0, k17m1, k17m2]
  instanceTypes := #[]
  staticTypes := #[.double, .double, .double, .double, .double, .long, .long, .double, .double, .boolean]
  resolved := Array.replicate 460 none
  statics := none }

def pool18 : Array CpInfo := pool [(2, .class_ 4), (1, u "java/lang/Object"), (0, u "<init>"), (0, u "()V"), (7, .class_ 16), (1, u "java/util/Arrays"), (57, .class_ 76), (1, u "java/util/Arrays$NaturalOrder"), (36, .class_ 115), (1, u "java/util/Arrays$LegacyMergeSort"), (1, u "Z"), (21, u "copyOfRange"), (10, .methodref 151 152), (0, .class_ 153), (0, .nameAndType 154 155), (0, u "java/lang/System"), (0, u "arraycopy"), (0, u "(Ljava/lang/Object;ILjava/lang/Object;II)V"), (146, u "copyOf"), (1, .methodref 305 306), (0, .class_ 307), (0, .nameAndType 308 309), (0, u "java/lang/Math"), (0, u "min"), (0, u "(II)I"), (29, .methodref 14 340), (0, .nameAndType 341 342), (0, u "copyOfRangeByte"), (0, u "([BII)[B"), (0, .methodref 14 344), (0, .nameAndType 345 346), (0, u "checkLength"), (0, u "(II)V"), (28, .class_ 376), (0, u "java/util/Arrays$ArrayList"), (68, u "$assertionsDisabled"), (269, u "MIN_ARRAY_SORT_GRAN"), (0, u "I"), (2, u "INSERTIONSORT_THRESHOLD"), (149, u "([BI)[B"), (105, .class_ 976), (0, u "java/util/Arrays$ArrayItr")] 52

def k18m0 : Method := { name := "<init>", desc := "()V", sig := { parameters := [], returnType := none }, accessFlags := 2, code := none }
def k18c1 : Code := { maxStack := 6, maxLocals := 3, code := jdk_65_method_121_code, exceptionTable := #[], attributes := #[] }
def k18m1 : Method := { name := "copyOf", desc := "([BI)[B", sig := { parameters := [(.array .byte), .int], returnType := some (.array .byte) }, accessFlags := 9, code := some k18c1 }
def k18c2 : Code := { maxStack := 4, maxLocals := 2, code := jdk_65_method_131_code, exceptionTable := #[], attributes := #[] }
def k18m2 : Method := { name := "checkLength", desc := "(II)V", sig := { parameters := [.int, .int], returnType := none }, accessFlags := 10, code := some k18c2 }
def k18c3 : Code := { maxStack := 3, maxLocals := 3, code := jdk_65_method_132_code, exceptionTable := #[], attributes := #[] }
def k18m3 : Method := { name := "copyOfRange", desc := "([BII)[B", sig := { parameters := [(.array .byte), .int, .int], returnType := some (.array .byte) }, accessFlags := 9, code := some k18c3 }
def k18c4 : Code := { maxStack := 6, maxLocals := 5, code := jdk_65_method_133_code, exceptionTable := #[], attributes := #[] }
def k18m4 : Method := { name := "copyOfRangeByte", desc := "([BII)[B", sig := { parameters := [(.array .byte), .int, .int], returnType := some (.array .byte) }, accessFlags := 10, code := some k18c4 }
/-- java/util/Arrays -/
def k18 : Class := { plain "java/util/Arrays" (some 0) with
  accessFlags := 49
  interfaces := #[]
  cf := some (fileOf pool18 14 #[.nestMembers #[975, 375, 113, 74]] #[{ accessFlags := 2, nameIndex := 5, descriptorIndex := 6, attributes := #[] }, { accessFlags := 9, nameIndex := 302, descriptorIndex := 869, attributes := #[] }, { accessFlags := 10, nameIndex := 345, descriptorIndex := 346, attributes := #[] }, { accessFlags := 9, nameIndex := 139, descriptorIndex := 342, attributes := #[] }, { accessFlags := 10, nameIndex := 341, descriptorIndex := 342, attributes := #[] }] 49 2 #[] #[{ accessFlags := 26, nameIndex := 715, descriptorIndex := 716, attributes := #[] }, { accessFlags := 26, nameIndex := 719, descriptorIndex := 716, attributes := #[] }, { accessFlags := 4120, nameIndex := 445, descriptorIndex := 117, attributes := #[] }])
  fields := #[{ name := "MIN_ARRAY_SORT_GRAN", type := .int, accessFlags := 26, slot := 0, constantValue := 0 }, { name := "INSERTIONSORT_THRESHOLD", type := .int, accessFlags := 26, slot := 1, constantValue := 0 }, { name := "$assertionsDisabled", type := .boolean, accessFlags := 4120, slot := 2, constantValue := 0 }]
  methods := #[k18m0, k18m1, k18m2, k18m3, k18m4]
  instanceTypes := #[]
  staticTypes := #[.int, .int, .boolean]
  resolved := Array.replicate 1029 none
  statics := none }

def pool19 : Array CpInfo := pool [(2, .class_ 4), (1, u "java/lang/Object"), (0, u "<init>"), (0, u "()V"), (1, .class_ 10), (1, u "java/lang/System"), (0, u "allowSecurityManager"), (0, u "I"), (16, u "cons"), (0, u "Ljava/io/Console;"), (77, .class_ 110), (1, u "java/lang/System$CallersHolder"), (43, u "initialErrStream"), (0, u "Ljava/io/PrintStream;"), (19, u "security"), (0, u "Ljava/lang/SecurityManager;"), (31, .class_ 209), (0, u "java/lang/System$1"), (7, u "props"), (0, u "Ljava/util/Properties;"), (2, u "lineSeparator"), (0, u "Ljava/lang/String;"), (96, .class_ 321), (1, u "java/lang/System$LoggerFinder"), (5, .class_ 328), (0, u "java/lang/System$Logger"), (67, u "err"), (2, u "out"), (91, u "notSupportedJnuEncoding"), (15, u "in"), (17, u "initialIn"), (0, u "Ljava/io/InputStream;"), (35, u "bootLayer"), (0, u "Ljava/lang/ModuleLayer;"), (99, .class_ 664), (0, u "java/lang/System$2"), (9, u "NEVER"), (2, u "MAYBE"), (49, u "arraycopy"), (0, u "(Ljava/lang/Object;ILjava/lang/Object;II)V"), (72, .class_ 802), (0, u "java/lang/System$Logger$Level")] 31

def k19m0 : Method := { name := "<init>", desc := "()V", sig := { parameters := [], returnType := none }, accessFlags := 2, code := none }
def k19m1 : Method := { name := "arraycopy", desc := "(Ljava/lang/Object;ILjava/lang/Object;II)V", sig := { parameters := [(.object "java/lang/Object"), .int, (.object "java/lang/Object"), .int, .int], returnType := none }, accessFlags := 265, code := none }
/-- java/lang/System -/
def k19 : Class := { plain "java/lang/System" (some 0) with
  accessFlags := 49
  interfaces := #[]
  cf := some (fileOf pool19 8 #[.nestMembers #[319, 327, 801, 108, 663, 208]] #[{ accessFlags := 2, nameIndex := 5, descriptorIndex := 6, attributes := #[] }, { accessFlags := 265, nameIndex := 727, descriptorIndex := 728, attributes := #[] }] 49 2 #[] #[{ accessFlags := 25, nameIndex := 507, descriptorIndex := 526, attributes := #[] }, { accessFlags := 25, nameIndex := 399, descriptorIndex := 155, attributes := #[] }, { accessFlags := 25, nameIndex := 396, descriptorIndex := 155, attributes := #[] }, { accessFlags := 10, nameIndex := 525, descriptorIndex := 526, attributes := #[] }, { accessFlags := 26, nameIndex := 674, descriptorIndex := 12, attributes := #[] }, { accessFlags := 26, nameIndex := 677, descriptorIndex := 12, attributes := #[] }, { accessFlags := 10, nameIndex := 11, descriptorIndex := 12, attributes := #[] }, { accessFlags := 74, nameIndex := 175, descriptorIndex := 176, attributes := #[] }, { accessFlags := 10, nameIndex := 491, descriptorIndex := 222, attributes := #[] }, { accessFlags := 74, nameIndex := 29, descriptorIndex := 30, attributes := #[] }, { accessFlags := 74, nameIndex := 154, descriptorIndex := 155, attributes := #[] }, { accessFlags := 10, nameIndex := 217, descriptorIndex := 218, attributes := #[] }, { accessFlags := 10, nameIndex := 221, descriptorIndex := 222, attributes := #[] }, { accessFlags := 8, nameIndex := 562, descriptorIndex := 563, attributes := #[] }])
  fields := #[{ name := "in", type := (.object "java/io/InputStream"), accessFlags := 25, slot := 0, constantValue := 0 }, { name := "out", type := (.object "java/io/PrintStream"), accessFlags := 25, slot := 1, constantValue := 0 }, { name := "err", type := (.object "java/io/PrintStream"), accessFlags := 25, slot := 2, constantValue := 0 }, { name := "initialIn", type := (.object "java/io/InputStream"), accessFlags := 10, slot := 3, constantValue := 0 }, { name := "NEVER", type := .int, accessFlags := 26, slot := 4, constantValue := 0 }, { name := "MAYBE", type := .int, accessFlags := 26, slot := 5, constantValue := 0 }, { name := "allowSecurityManager", type := .int, accessFlags := 10, slot := 6, constantValue := 0 }, { name := "security", type := (.object "java/lang/SecurityManager"), accessFlags := 74, slot := 7, constantValue := 0 }, { name := "notSupportedJnuEncoding", type := (.object "java/lang/String"), accessFlags := 10, slot := 8, constantValue := 0 }, { name := "cons", type := (.object "java/io/Console"), accessFlags := 74, slot := 9, constantValue := 0 }, { name := "initialErrStream", type := (.object "java/io/PrintStream"), accessFlags := 74, slot := 10, constantValue := 0 }, { name := "props", type := (.object "java/util/Properties"), accessFlags := 10, slot := 11, constantValue := 0 }, { name := "lineSeparator", type := (.object "java/lang/String"), accessFlags := 10, slot := 12, constantValue := 0 }, { name := "bootLayer", type := (.object "java/lang/ModuleLayer"), accessFlags := 8, slot := 13, constantValue := 0 }]
  methods := #[k19m0, k19m1]
  instanceTypes := #[]
  staticTypes := #[(.object "java/io/InputStream"), (.object "java/io/PrintStream"), (.object "java/io/PrintStream"), (.object "java/io/InputStream"), .int, .int, .int, (.object "java/lang/SecurityManager"), (.object "java/lang/String"), (.object "java/io/Console"), (.object "java/io/PrintStream"), (.object "java/util/Properties"), (.object "java/lang/String"), (.object "java/lang/ModuleLayer")]
  resolved := Array.replicate 834 none
  statics := none }

def pool20 : Array CpInfo := pool [(2, .class_ 4), (1, u "java/lang/Object"), (0, u "<init>"), (0, u "()V"), (17, .class_ 26), (1, u "jdk/internal/util/Preconditions"), (22, u "checkFromIndexSize"), (5, .class_ 56), (0, u "jdk/internal/util/Preconditions$4"), (57, .class_ 115), (0, u "jdk/internal/util/Preconditions$1"), (7, u "SIOOBE_FORMATTER"), (0, u "Ljava/util/function/BiFunction;"), (0, .class_ 126), (0, u "jdk/internal/util/Preconditions$2"), (3, u "AIOOBE_FORMATTER"), (0, .class_ 132), (0, u "jdk/internal/util/Preconditions$3"), (3, u "IOOBE_FORMATTER"), (46, u "(IIILjava/util/function/BiFunction;)I")] 10

def k20m0 : Method := { name := "<init>", desc := "()V", sig := { parameters := [], returnType := none }, accessFlags := 1, code := none }
def k20c1 : Code := { maxStack := 4, maxLocals := 4, code := jdk_41_method_13_code, exceptionTable := #[], attributes := #[] }
def k20m1 : Method := { name := "checkFromIndexSize", desc := "(IIILjava/util/function/BiFunction;)I", sig := { parameters := [.int, .int, .int, (.object "java/util/function/BiFunction")], returnType := some .int }, accessFlags := 9, code := some k20c1 }
/-- jdk/internal/util/Preconditions -/
def k20 : Class := { plain "jdk/internal/util/Preconditions" (some 0) with
  accessFlags := 33
  interfaces := #[]
  cf := some (fileOf pool20 24 #[.nestMembers #[55, 131, 125, 114]] #[{ accessFlags := 1, nameIndex := 5, descriptorIndex := 6, attributes := #[] }, { accessFlags := 9, nameIndex := 49, descriptorIndex := 183, attributes := #[] }] 33 2 #[] #[{ accessFlags := 25, nameIndex := 123, descriptorIndex := 124, attributes := #[] }, { accessFlags := 25, nameIndex := 130, descriptorIndex := 124, attributes := #[] }, { accessFlags := 25, nameIndex := 136, descriptorIndex := 124, attributes := #[] }])
  fields := #[{ name := "SIOOBE_FORMATTER", type := (.object "java/util/function/BiFunction"), accessFlags := 25, slot := 0, constantValue := 0 }, { name := "AIOOBE_FORMATTER", type := (.object "java/util/function/BiFunction"), accessFlags := 25, slot := 1, constantValue := 0 }, { name := "IOOBE_FORMATTER", type := (.object "java/util/function/BiFunction"), accessFlags := 25, slot := 2, constantValue := 0 }]
  methods := #[k20m0, k20m1]
  instanceTypes := #[]
  staticTypes := #[(.object "java/util/function/BiFunction"), (.object "java/util/function/BiFunction"), (.object "java/util/function/BiFunction")]
  resolved := Array.replicate 194 none
  statics := some 3 }

def pool21 : Array CpInfo := pool [(2, .class_ 4), (1, u "java/lang/Object"), (0, u "<init>"), (0, u "()V"), (12, .class_ 20), (0, u "java/util/Collections"), (63, u "r"), (0, u "Ljava/util/Random;"), (80, .class_ 167), (0, u "java/util/Collections$UnmodifiableCollection"), (6, .class_ 175), (0, u "java/util/Collections$UnmodifiableSequencedCollection"), (6, .class_ 183), (0, u "java/util/Collections$UnmodifiableSet"), (6, .class_ 191), (0, u "java/util/Collections$UnmodifiableSequencedSet"), (6, .class_ 199), (0, u "java/util/Collections$UnmodifiableSortedSet"), (6, .class_ 207), (0, u "java/util/Collections$UnmodifiableNavigableSet"), (4, .class_ 213), (0, u "java/util/Collections$UnmodifiableList"), (1, .class_ 216), (0, u "java/util/Collections$UnmodifiableRandomAccessList"), (6, .class_ 224), (0, u "java/util/Collections$UnmodifiableMap"), (6, .class_ 232), (0, u "java/util/Collections$UnmodifiableSequencedMap"), (4, .class_ 238), (0, u "java/util/Collections$UnmodifiableSortedMap"), (6, .class_ 246), (0, u "java/util/Collections$UnmodifiableNavigableMap"), (3, .class_ 251), (0, u "java/util/Collections$SynchronizedCollection"), (4, .class_ 257), (0, u "java/util/Collections$SynchronizedSet"), (4, .class_ 263), (0, u "java/util/Collections$SynchronizedSortedSet"), (1, .class_ 266), (0, u "java/util/Collections$SynchronizedNavigableSet"), (1, .class_ 269), (0, u "java/util/Collections$SynchronizedRandomAccessList"), (1, .class_ 272), (0, u "java/util/Collections$SynchronizedList"), (5, .class_ 279), (0, u "java/util/Collections$SynchronizedMap"), (1, .class_ 282), (0, u "java/util/Collections$SynchronizedSortedMap"), (1, .class_ 285), (0, u "java/util/Collections$SynchronizedNavigableMap"), (1, .class_ 288), (0, u "java/util/Collections$CheckedCollection"), (11, .class_ 301), (0, u "java/util/Collections$CheckedQueue"), (3, .class_ 306), (0, u "java/util/Collections$CheckedSet"), (3, .class_ 311), (0, u "java/util/Collections$CheckedSortedSet"), (3, .class_ 316), (0, u "java/util/Collections$CheckedNavigableSet"), (3, .class_ 321), (0, u "java/util/Collections$CheckedRandomAccessList"), (3, .class_ 326), (0, u "java/util/Collections$CheckedList"), (1, .class_ 329), (0, u "java/util/Collections$CheckedMap"), (3, .class_ 334), (0, u "java/util/Collections$CheckedSortedMap"), (3, .class_ 339), (0, u "java/util/Collections$CheckedNavigableMap"), (4, .class_ 346), (1, u "java/util/Collections$EmptyIterator"), (3, .class_ 352), (1, u "java/util/Collections$EmptyListIterator"), (2, .class_ 357), (1, u "java/util/Collections$EmptyEnumeration"), (4, u "EMPTY_SET"), (0, u "Ljava/util/Set;"), (6, u "EMPTY_LIST"), (0, u "Ljava/util/List;"), (2, u "EMPTY_MAP"), (0, u "Ljava/util/Map;"), (4, .class_ 381), (0, u "java/util/Collections$SingletonSet"), (2, .class_ 385), (0, u "java/util/Collections$1"), (1, .class_ 388), (0, u "java/util/Collections$2"), (1, .class_ 391), (0, u "java/util/Collections$SingletonList"), (1, .class_ 394), (0, u "java/util/Collections$SingletonMap"), (22, .class_ 418), (0, u "java/util/Collections$CopiesList"), (4, .class_ 425), (1, u "java/util/Collections$ReverseComparator"), (8, .class_ 435), (0, u "java/util/Collections$ReverseComparator2"), (6, .class_ 443), (0, u "java/util/Collections$3"), (25, .class_ 470), (0, u "java/util/Collections$SetFromMap"), (2, .class_ 474), (0, u "java/util/Collections$SequencedSetFromMap"), (3, .class_ 479), (0, u "java/util/Collections$AsLIFOQueue"), (11, .class_ 492), (0, u "java/util/Collections$EmptySet"), (1, .class_ 495), (0, u "java/util/Collections$EmptyList"), (1, .class_ 498), (0, u "java/util/Collections$EmptyMap"), (1, u "BINARYSEARCH_THRESHOLD"), (0, u "I"), (2, u "REVERSE_THRESHOLD"), (1, u "SHUFFLE_THRESHOLD"), (1, u "FILL_THRESHOLD"), (1, u "ROTATE_THRESHOLD"), (1, u "COPY_THRESHOLD"), (1, u "REPLACEALL_THRESHOLD"), (1, u "INDEXOFSUBLIST_THRESHOLD"), (333, .class_ 851), (0, u "java/util/Collections$CheckedMap$CheckedEntrySet"), (0, .class_ 853), (0, u "java/util/Collections$CheckedMap$CheckedEntrySet$CheckedEntry"), (0, .class_ 855), (0, u "java/util/Collections$CheckedMap$CheckedEntrySet$1"), (0, .class_ 857), (0, u "java/util/Collections$CheckedList$1"), (0, .class_ 859), (0, u "java/util/Collections$CheckedCollection$1"), (0, .class_ 861), (0, u "java/util/Collections$UnmodifiableNavigableMap$EmptyNavigableMap"), (0, .class_ 863), (0, u "java/util/Collections$UnmodifiableMap$UnmodifiableEntrySet"), (0, .class_ 865), (0, u "java/util/Collections$UnmodifiableMap$UnmodifiableEntrySet$UnmodifiableEntry"), (0, .class_ 867), (0, u "java/util/Collections$UnmodifiableMap$UnmodifiableEntrySet$UnmodifiableEntrySetSpliterator"), (0, .class_ 869), (0, u "java/util/Collections$UnmodifiableMap$UnmodifiableEntrySet$1"), (0, .class_ 871), (0, u "java/util/Collections$UnmodifiableList$1"), (0, .class_ 873), (0, u "java/util/Collections$UnmodifiableNavigableSet$EmptyNavigableSet"), (0, .class_ 875), (0, u "java/util/Collections$UnmodifiableCollection$1")] 57

def k21m0 : Method := { name := "<init>", desc := "()V", sig := { parameters := [], returnType := none }, accessFlags := 2, code := none }
/-- java/util/Collections -/
def k21 : Class := { plain "java/util/Collections" (some 0) with
  accessFlags := 33
  interfaces := #[]
  cf := some (fileOf pool21 19 #[.nestMembers #[478, 473, 469, 434, 423, 417, 393, 390, 380, 497, 494, 491, 355, 350, 344, 338, 333, 328, 850, 852, 854, 320, 325, 856, 315, 310, 305, 300, 287, 858, 284, 281, 278, 268, 271, 265, 262, 256, 250, 245, 860, 237, 231, 223, 862, 864, 866, 868, 215, 212, 870, 206, 872, 198, 190, 182, 174, 166, 874, 442, 387, 384]] #[{ accessFlags := 2, nameIndex := 5, descriptorIndex := 6, attributes := #[] }] 33 2 #[] #[{ accessFlags := 26, nameIndex := 500, descriptorIndex := 501, attributes := #[] }, { accessFlags := 26, nameIndex := 504, descriptorIndex := 501, attributes := #[] }, { accessFlags := 26, nameIndex := 506, descriptorIndex := 501, attributes := #[] }, { accessFlags := 26, nameIndex := 508, descriptorIndex := 501, attributes := #[] }, { accessFlags := 26, nameIndex := 510, descriptorIndex := 501, attributes := #[] }, { accessFlags := 26, nameIndex := 512, descriptorIndex := 501, attributes := #[] }, { accessFlags := 26, nameIndex := 514, descriptorIndex := 501, attributes := #[] }, { accessFlags := 26, nameIndex := 516, descriptorIndex := 501, attributes := #[] }, { accessFlags := 10, nameIndex := 84, descriptorIndex := 85, attributes := #[] }, { accessFlags := 25, nameIndex := 362, descriptorIndex := 363, attributes := #[] }, { accessFlags := 25, nameIndex := 370, descriptorIndex := 371, attributes := #[] }, { accessFlags := 25, nameIndex := 374, descriptorIndex := 375, attributes := #[] }])
  fields := #[{ name := "BINARYSEARCH_THRESHOLD", type := .int, accessFlags := 26, slot := 0, constantValue := 0 }, { name := "REVERSE_THRESHOLD", type := .int, accessFlags := 26, slot := 1, constantValue := 0 }, { name := "SHUFFLE_THRESHOLD", type := .int, accessFlags := 26, slot := 2, constantValue := 0 }, { name := "FILL_THRESHOLD", type := .int, accessFlags := 26, slot := 3, constantValue := 0 }, { name := "ROTATE_THRESHOLD", type := .int, accessFlags := 26, slot := 4, constantValue := 0 }, { name := "COPY_THRESHOLD", type := .int, accessFlags := 26, slot := 5, constantValue := 0 }, { name := "REPLACEALL_THRESHOLD", type := .int, accessFlags := 26, slot := 6, constantValue := 0 }, { name := "INDEXOFSUBLIST_THRESHOLD", type := .int, accessFlags := 26, slot := 7, constantValue := 0 }, { name := "r", type := (.object "java/util/Random"), accessFlags := 10, slot := 8, constantValue := 0 }, { name := "EMPTY_SET", type := (.object "java/util/Set"), accessFlags := 25, slot := 9, constantValue := 0 }, { name := "EMPTY_LIST", type := (.object "java/util/List"), accessFlags := 25, slot := 10, constantValue := 0 }, { name := "EMPTY_MAP", type := (.object "java/util/Map"), accessFlags := 25, slot := 11, constantValue := 0 }]
  methods := #[k21m0]
  instanceTypes := #[]
  staticTypes := #[.int, .int, .int, .int, .int, .int, .int, .int, (.object "java/util/Random"), (.object "java/util/Set"), (.object "java/util/List"), (.object "java/util/Map")]
  resolved := Array.replicate 933 none
  statics := some 4 }

def pool22 : Array CpInfo := pool [(8, .class_ 10), (1, u "java/lang/Iterable"), (24, .class_ 36), (0, u "java/lang/Object")] 25

/-- java/lang/Iterable -/
def k22 : Class := { plain "java/lang/Iterable" (some 0) with
  accessFlags := 1537
  interfaces := #[]
  cf := some (fileOf pool22 8 #[] #[] 1537 35 #[] #[])
  fields := #[]
  methods := #[]
  instanceTypes := #[]
  staticTypes := #[]
  resolved := Array.replicate 62 none
  statics := none }

def pool23 : Array CpInfo := pool [(10, .class_ 12), (1, u "java/util/Collection"), (47, .class_ 61), (0, u "java/lang/Object"), (0, .class_ 63), (0, u "java/lang/Iterable")] 51

/-- java/util/Collection -/
def k23 : Class := { plain "java/util/Collection" (some 0) with
  accessFlags := 1537
  interfaces := #[22]
  cf := some (fileOf pool23 10 #[] #[] 1537 60 #[62] #[])
  fields := #[]
  methods := #[]
  instanceTypes := #[]
  staticTypes := #[]
  resolved := Array.replicate 115 none
  statics := none }

def pool24 : Array CpInfo := pool [(2, .class_ 4), (1, u "java/lang/Object"), (0, u "<init>"), (0, u "()V"), (1, .class_ 10), (1, u "java/util/AbstractCollection"), (66, .class_ 78), (0, u "java/util/Collection")] 81

def k24m0 : Method := { name := "<init>", desc := "()V", sig := { parameters := [], returnType := none }, accessFlags := 4, code := none }
/-- java/util/AbstractCollection -/
def k24 : Class := { plain "java/util/AbstractCollection" (some 0) with
  accessFlags := 1057
  interfaces := #[23]
  cf := some (fileOf pool24 8 #[] #[{ accessFlags := 4, nameIndex := 5, descriptorIndex := 6, attributes := #[] }] 1057 2 #[77] #[])
  fields := #[]
  methods := #[k24m0]
  instanceTypes := #[]
  staticTypes := #[]
  resolved := Array.replicate 160 none
  statics := none }

def pool25 : Array CpInfo := pool [(8, .class_ 10), (1, u "java/util/SequencedCollection"), (15, .class_ 27), (0, u "java/lang/Object"), (0, .class_ 29), (0, u "java/util/Collection")] 27

/-- java/util/SequencedCollection -/
def k25 : Class := { plain "java/util/SequencedCollection" (some 0) with
  accessFlags := 1537
  interfaces := #[23]
  cf := some (fileOf pool25 8 #[] #[] 1537 26 #[28] #[])
  fields := #[]
  methods := #[]
  instanceTypes := #[]
  staticTypes := #[]
  resolved := Array.replicate 57 none
  statics := none }

def pool26 : Array CpInfo := pool [(8, .class_ 10), (1, u "java/util/List"), (92, .class_ 104), (0, u "java/lang/Object"), (15, .class_ 121), (0, u "java/util/SequencedCollection")] 129

/-- java/util/List -/
def k26 : Class := { plain "java/util/List" (some 0) with
  accessFlags := 1537
  interfaces := #[25]
  cf := some (fileOf pool26 8 #[] #[] 1537 103 #[120] #[])
  fields := #[]
  methods := #[]
  instanceTypes := #[]
  staticTypes := #[]
  resolved := Array.replicate 251 none
  statics := none }

def pool27 : Array CpInfo := pool [(2, .class_ 4), (1, u "java/util/AbstractCollection"), (0, u "<init>"), (0, u "()V"), (1, .class_ 10), (1, u "java/util/AbstractList"), (0, u "modCount"), (0, u "I"), (64, .class_ 78), (0, u "java/util/AbstractList$Itr"), (3, .class_ 83), (0, u "java/util/AbstractList$ListItr"), (9, .class_ 94), (0, u "java/util/AbstractList$RandomAccessSubList"), (3, .class_ 99), (0, u "java/util/AbstractList$SubList"), (33, .class_ 134), (0, u "java/util/List"), (73, .class_ 209), (0, u "java/util/AbstractList$SubList$1"), (0, .class_ 211), (0, u "java/util/AbstractList$RandomAccessSpliterator")] 6

def k27m0 : Method := { name := "<init>", desc := "()V", sig := { parameters := [], returnType := none }, accessFlags := 4, code := none }
/-- java/util/AbstractList -/
def k27 : Class := { plain "java/util/AbstractList" (some 24) with
  accessFlags := 1057
  interfaces := #[26]
  cf := some (fileOf pool27 8 #[.nestMembers #[93, 98, 208, 210, 82, 77]] #[{ accessFlags := 4, nameIndex := 5, descriptorIndex := 6, attributes := #[] }] 1057 2 #[133] #[{ accessFlags := 132, nameIndex := 11, descriptorIndex := 12, attributes := #[] }])
  fields := #[{ name := "modCount", type := .int, accessFlags := 132, slot := 0, constantValue := 0 }]
  methods := #[k27m0]
  instanceTypes := #[.int]
  staticTypes := #[]
  resolved := Array.replicate 218 none
  statics := none }

def pool28 : Array CpInfo := pool [(1, .class_ 2), (0, u "java/util/RandomAccess"), (0, .class_ 4), (0, u "java/lang/Object")] 2

/-- java/util/RandomAccess -/
def k28 : Class := { plain "java/util/RandomAccess" (some 0) with
  accessFlags := 1537
  interfaces := #[]
  cf := some (fileOf pool28 1 #[] #[] 1537 3 #[] #[])
  fields := #[]
  methods := #[]
  instanceTypes := #[]
  staticTypes := #[]
  resolved := Array.replicate 7 none
  statics := none }

def pool29 : Array CpInfo := pool [(2, .class_ 4), (1, u "java/util/AbstractList"), (0, u "<init>"), (0, u "()V"), (1, .class_ 10), (1, u "java/util/Collections"), (54, .class_ 66), (0, u "java/util/Collections$EmptyList"), (0, .class_ 68), (0, u "java/util/RandomAccess"), (0, .class_ 70), (0, u "java/io/Serializable"), (0, u "serialVersionUID"), (0, u "J")] 77

def k29m0 : Method := { name := "<init>", desc := "()V", sig := { parameters := [], returnType := none }, accessFlags := 2, code := none }
/-- java/util/Collections$EmptyList -/
def k29 : Class := { plain "java/util/Collections$EmptyList" (some 27) with
  accessFlags := 32
  interfaces := #[28, 2]
  cf := some (fileOf pool29 65 #[.nestHost 8] #[{ accessFlags := 2, nameIndex := 5, descriptorIndex := 6, attributes := #[] }] 32 2 #[67, 69] #[{ accessFlags := 26, nameIndex := 71, descriptorIndex := 72, attributes := #[] }])
  fields := #[{ name := "serialVersionUID", type := .long, accessFlags := 26, slot := 0, constantValue := 0 }]
  methods := #[k29m0]
  instanceTypes := #[.int]
  staticTypes := #[.long]
  resolved := Array.replicate 150 none
  statics := none }

def pool30 : Array CpInfo := pool [(2, .class_ 4), (1, u "java/lang/StackTraceElement"), (0, u "<init>"), (2, .class_ 10), (1, u "java/lang/Object"), (0, u "()V"), (2, u "format"), (0, u "B"), (2, u "classLoaderName"), (0, u "Ljava/lang/String;"), (2, u "moduleName"), (2, u "moduleVersion"), (12, u "declaringClass"), (4, u "methodName"), (2, u "fileName"), (2, u "lineNumber"), (0, u "I"), (65, u "declaringClassObject"), (0, u "Ljava/lang/Class;"), (33, .class_ 153), (1, u "java/lang/StackTraceElement$HashedModules"), (17, .class_ 172), (0, u "java/io/Serializable"), (0, u "NATIVE_METHOD"), (1, u "UNKNOWN_SOURCE"), (2, u "BUILTIN_CLASS_LOADER"), (1, u "JDK_NON_UPGRADEABLE_MODULE"), (1, u "serialVersionUID"), (0, u "J")] 51

def k30m0 : Method := { name := "<init>", desc := "()V", sig := { parameters := [], returnType := none }, accessFlags := 2, code := none }
/-- java/lang/StackTraceElement -/
def k30 : Class := { plain "java/lang/StackTraceElement" (some 0) with
  accessFlags := 49
  interfaces := #[2]
  cf := some (fileOf pool30 2 #[.nestMembers #[151]] #[{ accessFlags := 2, nameIndex := 5, descriptorIndex := 11, attributes := #[] }] 49 8 #[171] #[{ accessFlags := 26, nameIndex := 173, descriptorIndex := 19, attributes := #[] }, { accessFlags := 26, nameIndex := 175, descriptorIndex := 19, attributes := #[] }, { accessFlags := 130, nameIndex := 116, descriptorIndex := 117, attributes := #[] }, { accessFlags := 2, nameIndex := 18, descriptorIndex := 19, attributes := #[] }, { accessFlags := 2, nameIndex := 22, descriptorIndex := 19, attributes := #[] }, { accessFlags := 2, nameIndex := 25, descriptorIndex := 19, attributes := #[] }, { accessFlags := 2, nameIndex := 38, descriptorIndex := 19, attributes := #[] }, { accessFlags := 2, nameIndex := 43, descriptorIndex := 19, attributes := #[] }, { accessFlags := 2, nameIndex := 46, descriptorIndex := 19, attributes := #[] }, { accessFlags := 2, nameIndex := 49, descriptorIndex := 50, attributes := #[] }, { accessFlags := 2, nameIndex := 14, descriptorIndex := 15, attributes := #[] }, { accessFlags := 26, nameIndex := 178, descriptorIndex := 15, attributes := #[] }, { accessFlags := 26, nameIndex := 180, descriptorIndex := 15, attributes := #[] }, { accessFlags := 26, nameIndex := 182, descriptorIndex := 183, attributes := #[] }])
  fields := #[{ name := "NATIVE_METHOD", type := (.object "java/lang/String"), accessFlags := 26, slot := 0, constantValue := 0 }, { name := "UNKNOWN_SOURCE", type := (.object "java/lang/String"), accessFlags := 26, slot := 1, constantValue := 0 }, { name := "declaringClassObject", type := (.object "java/lang/Class"), accessFlags := 130, slot := 0, constantValue := 0 }, { name := "classLoaderName", type := (.object "java/lang/String"), accessFlags := 2, slot := 1, constantValue := 0 }, { name := "moduleName", type := (.object "java/lang/String"), accessFlags := 2, slot := 2, constantValue := 0 }, { name := "moduleVersion", type := (.object "java/lang/String"), accessFlags := 2, slot := 3, constantValue := 0 }, { name := "declaringClass", type := (.object "java/lang/String"), accessFlags := 2, slot := 4, constantValue := 0 }, { name := "methodName", type := (.object "java/lang/String"), accessFlags := 2, slot := 5, constantValue := 0 }, { name := "fileName", type := (.object "java/lang/String"), accessFlags := 2, slot := 6, constantValue := 0 }, { name := "lineNumber", type := .int, accessFlags := 2, slot := 7, constantValue := 0 }, { name := "format", type := .byte, accessFlags := 2, slot := 8, constantValue := 0 }, { name := "BUILTIN_CLASS_LOADER", type := .byte, accessFlags := 26, slot := 2, constantValue := 0 }, { name := "JDK_NON_UPGRADEABLE_MODULE", type := .byte, accessFlags := 26, slot := 3, constantValue := 0 }, { name := "serialVersionUID", type := .long, accessFlags := 26, slot := 4, constantValue := 0 }]
  methods := #[k30m0]
  instanceTypes := #[(.object "java/lang/Class"), (.object "java/lang/String"), (.object "java/lang/String"), (.object "java/lang/String"), (.object "java/lang/String"), (.object "java/lang/String"), (.object "java/lang/String"), .int, .byte]
  staticTypes := #[(.object "java/lang/String"), (.object "java/lang/String"), .byte, .byte, .long]
  resolved := Array.replicate 235 none
  statics := none }

def pool31 : Array CpInfo := pool [(1, u "java/lang/Cloneable"), (0, .class_ 1), (0, u "java/lang/Object"), (0, .class_ 3)] 3

/-- java/lang/Cloneable -/
def k31 : Class := { plain "java/lang/Cloneable" (some 0) with
  accessFlags := 1537
  interfaces := #[]
  cf := some (fileOf pool31 2 #[] #[] 1537 4 #[] #[])
  fields := #[]
  methods := #[]
  instanceTypes := #[]
  staticTypes := #[]
  resolved := Array.replicate 8 none
  statics := none }

/-- the primitive byte -/
def k32 : Class := { plain "byte" none with kind := .primitive 'B', accessFlags := 0x411 }
/-- [B -/
def k33 : Class := { plain "[B" (some 0) with kind := .array 32 .byte, interfaces := #[31, 2], accessFlags := 1041 }

/-- the primitive char -/
def k34 : Class := { plain "char" none with kind := .primitive 'C', accessFlags := 0x411 }
/-- [C -/
def k35 : Class := { plain "[C" (some 0) with kind := .array 34 .char, interfaces := #[31, 2], accessFlags := 1041 }

/-- the primitive int -/
def k36 : Class := { plain "int" none with kind := .primitive 'I', accessFlags := 0x411 }
/-- [I -/
def k37 : Class := { plain "[I" (some 0) with kind := .array 36 .int, interfaces := #[31, 2], accessFlags := 1041 }

/-- [Ljava/lang/StackTraceElement; -/
def k38 : Class := { plain "[Ljava/lang/StackTraceElement;" (some 0) with kind := .array 30 (.object "java/lang/StackTraceElement"), interfaces := #[31, 2], accessFlags := 1041 }

/-- [Ljava/lang/Throwable; -/
def k39 : Class := { plain "[Ljava/lang/Throwable;" (some 0) with kind := .array 10 (.object "java/lang/Throwable"), interfaces := #[31, 2], accessFlags := 1041 }

def heap : Heap := #[{ cls := 7, slots := #[.long 0, .int 1, .null, .int 0, .null, .int 0, .int 0], vm := .statics 7 },
  { cls := 9, slots := #[.int 0, .int 8, .int 0, .int 1], vm := .statics 9 },
  { cls := 10, slots := #[.long 0, .ref 5, .ref 6, .null, .null, .null, .null, .ref 7, .int 1], vm := .statics 10 },
  { cls := 20, slots := #[.null, .null, .null], vm := .statics 20 },
  { cls := 21, slots := #[.int 0, .int 0, .int 0, .int 0, .int 0, .int 0, .int 0, .int 0, .null, .null, .ref 6, .null], vm := .statics 21 },
  { cls := 38, slots := #[], vm := .none },
  { cls := 29, slots := #[.int 0], vm := .none },
  { cls := 39, slots := #[], vm := .none }]
def classes : Array Class := #[k0, k1, k2, k3, k4, k5, k6, k7, k8, k9, k10, k11, k12, k13, k14, k15, k16, k17, k18, k19, k20, k21, k22, k23, k24, k25, k26, k27, k28, k29, k30, k31, k32, k33, k34, k35, k36, k37, k38, k39]
def interned : List (Array UInt16 × Addr) := []
def slotsUsed : Nat := 36
def theMethod : MethodId := ⟨1, 1⟩
def args0 : Array Value := #[.int 65, .int 66, .int 67, .int 1]
def aboutOver (below : List Frame) : State where
  vm := { classes := classes, interned := interned.toArray }
  heap := heap
  slotsUsed := slotsUsed
  threads := #[{ frames := .invoking theMethod args0 :: below }]
def below0 : List Frame := [.native { method := ⟨0, 0⟩, args := #[] }]
def about1 : State := aboutOver below0
def p0 : Program := .bare "" "" ""
def e0 : Env := launch0.env 0 0 0
theorem w_frames : about1.frames = Frame.invoking theMethod args0 :: below0 := rfl
set_option maxRecDepth 65536 in
theorem w_args : argsFit about1.vm theMethod args0 = true := by decide +kernel
set_option maxRecDepth 65536 in
theorem w_heap : heapFits about1 = true := by decide +kernel
set_option maxRecDepth 65536 in
theorem w_runnable : about1.curStatus? = some .runnable := by decide +kernel
set_option maxRecDepth 65536 in
theorem w_alone : about1.alone = true := by decide +kernel
set_option maxRecDepth 65536 in
theorem w_named : about1.methodNamed? x = some theMethod := by decide +kernel
set_option maxRecDepth 65536 in
theorem w_hears : about1.hears theMethod below0 = true := by decide +kernel
set_option maxRecDepth 65536 in
theorem w_ripe : about1.ripe theMethod args0 below0 = true := by decide +kernel
theorem w_running : about1.status = .running := rfl
set_option maxRecDepth 65536 in
theorem w_room : about1.hasRoom e0.platform room_1 = true :=
  launch0.hasRoom_least _ room_1 (by decide +kernel) (by decide +kernel) (by decide +kernel) (by decide +kernel) (by decide +kernel) (by decide +kernel)
theorem allAtoms_all (ts : List Jvm.Cond) (a : Array Jvm.Value) (st : Jvm.State) : (allAtoms ts).before a st = ts.all (fun c => c.before a st) := by
  induction ts with
  | nil => rfl
  | cons c t ih =>
    show (Jvm.Cond.and c (allAtoms t)).before a st = _
    rw [Jvm.Cond.before_and, ih, List.all_cons]
def words1 : List Jvm.Cond := Jvm.Cond.code x code maxLocals ret :: tables_1
/-- a 'code' word, met by the world's own term for the bytes: nothing is compared byte by byte -/
theorem code_word {y : MethodName} {bytes : ByteArray} {mx : Nat} {rt : Option FieldType} {a : Array Value} {s : State} {m : MethodId} {meth : Method} {c : Code} (h1 : s.methodNamed? y = some m) (h2 : s.vm.method? m = some meth) (h3 : meth.code = some c) (h4 : c.code = bytes)
    (h5 : (c.maxLocals == mx && c.exceptionTable.isEmpty && decide (c.maxStack ≤ mostOperands) && decide (meth.sig.returnType = rt) && !meth.locks && decide (parseMethodDescriptor y.desc = some meth.sig)) = true) : (Jvm.Cond.code y bytes mx rt).before a s = true := by
  simp only [Bool.and_eq_true, beq_iff_eq, Bool.not_eq_true', decide_eq_true_eq] at h5
  obtain ⟨⟨⟨⟨⟨g1, g2⟩, g3⟩, g4⟩, g5⟩, g6⟩ := h5
  simp [Cond.before, Cond.holds, Cond.value, h1, h2, h3, h4, g1, g2, g3, g4, g5, g6]
def isCode : Jvm.Cond → Bool
  | .code _ _ _ _ => true
  | _ => false
theorem all_split {L : List Jvm.Cond} {P : Jvm.Cond → Bool} (h1 : L.all (fun c => isCode c || P c) = true) (h2 : ∀ c ∈ L.filter isCode, P c = true) : L.all P = true := by
  refine List.all_eq_true.mpr fun c hc => ?_
  have h := List.all_eq_true.mp h1 c hc
  rcases Bool.eq_false_or_eq_true (isCode c) with hi | hi
  · exact h2 c (List.mem_filter.mpr ⟨hc, hi⟩)
  · simpa [hi] using h
set_option maxRecDepth 65536 in
theorem w_c0 : (Jvm.Cond.code x code maxLocals ret).before args0 about1 = true := code_word (m := ⟨1, 1⟩) (meth := k1m1) (c := k1c1) (by decide +kernel) rfl rfl rfl (by decide +kernel)
set_option maxRecDepth 65536 in
theorem w_c1 : (Jvm.Cond.code ({ cls := "java/lang/String", name := "valueOf", desc := "(C)Ljava/lang/String;" } : Jvm.MethodName) jdk_42_method_139_code (1 : Nat) (Option.some (Jvm.ClassFile.FieldType.object "java/lang/String"))).before args0 about1 = true := code_word (m := ⟨7, 5⟩) (meth := k7m5) (c := k7c5) (by decide +kernel) rfl rfl rfl (by decide +kernel)
set_option maxRecDepth 65536 in
theorem w_c2 : (Jvm.Cond.code ({ cls := "java/lang/StringLatin1", name := "canEncode", desc := "(C)Z" } : Jvm.MethodName) jdk_43_method_3_code (1 : Nat) (Option.some Jvm.ClassFile.FieldType.boolean)).before args0 about1 = true := code_word (m := ⟨8, 1⟩) (meth := k8m1) (c := k8c1) (by decide +kernel) rfl rfl rfl (by decide +kernel)
set_option maxRecDepth 65536 in
theorem w_c3 : (Jvm.Cond.code ({ cls := "java/lang/StringLatin1", name := "toBytes", desc := "(C)[B" } : Jvm.MethodName) jdk_43_method_46_code (1 : Nat) (Option.some (Jvm.ClassFile.FieldType.array Jvm.ClassFile.FieldType.byte))).before args0 about1 = true := code_word (m := ⟨8, 3⟩) (meth := k8m3) (c := k8c3) (by decide +kernel) rfl rfl rfl (by decide +kernel)
set_option maxRecDepth 65536 in
theorem w_c4 : (Jvm.Cond.code ({ cls := "java/lang/String", name := "<init>", desc := "([BB)V" } : Jvm.MethodName) jdk_42_method_151_code (3 : Nat) (Option.none : Option Jvm.ClassFile.FieldType)).before args0 about1 = true := code_word (m := ⟨7, 9⟩) (meth := k7m9) (c := k7c9) (by decide +kernel) rfl rfl rfl (by decide +kernel)
set_option maxRecDepth 65536 in
theorem w_c5 : (Jvm.Cond.code ({ cls := "java/lang/Object", name := "<init>", desc := "()V" } : Jvm.MethodName) object_method_1_code (1 : Nat) (Option.none : Option Jvm.ClassFile.FieldType)).before args0 about1 = true := code_word (m := ⟨0, 0⟩) (meth := k0m0) (c := k0c0) (by decide +kernel) rfl rfl rfl (by decide +kernel)
set_option maxRecDepth 65536 in
theorem w_c6 : (Jvm.Cond.code ({ cls := "java/lang/String", name := "<init>", desc := "([C)V" } : Jvm.MethodName) jdk_42_method_3_code (2 : Nat) (Option.none : Option Jvm.ClassFile.FieldType)).before args0 about1 = true := code_word (m := ⟨7, 1⟩) (meth := k7m1) (c := k7c1) (by decide +kernel) rfl rfl rfl (by decide +kernel)
set_option maxRecDepth 65536 in
theorem w_c7 : (Jvm.Cond.code ({ cls := "java/lang/String", name := "<init>", desc := "([CIILjava/lang/Void;)V" } : Jvm.MethodName) jdk_42_method_149_code (6 : Nat) (Option.none : Option Jvm.ClassFile.FieldType)).before args0 about1 = true := code_word (m := ⟨7, 7⟩) (meth := k7m7) (c := k7c7) (by decide +kernel) rfl rfl rfl (by decide +kernel)
set_option maxRecDepth 65536 in
theorem w_c8 : (Jvm.Cond.code ({ cls := "java/lang/StringUTF16", name := "compress", desc := "([CII)[B" } : Jvm.MethodName) jdk_52_method_16_code (6 : Nat) (Option.some (Jvm.ClassFile.FieldType.array Jvm.ClassFile.FieldType.byte))).before args0 about1 = true := code_word (m := ⟨9, 8⟩) (meth := k9m8) (c := k9c8) (by decide +kernel) rfl rfl rfl (by decide +kernel)
set_option maxRecDepth 65536 in
theorem w_c9 : (Jvm.Cond.code ({ cls := "java/lang/StringUTF16", name := "compress", desc := "([CI[BII)I" } : Jvm.MethodName) jdk_52_method_21_code (7 : Nat) (Option.some Jvm.ClassFile.FieldType.int)).before args0 about1 = true := code_word (m := ⟨9, 9⟩) (meth := k9m9) (c := k9c9) (by decide +kernel) rfl rfl rfl (by decide +kernel)
set_option maxRecDepth 65536 in
theorem w_c10 : (Jvm.Cond.code ({ cls := "java/lang/StringUTF16", name := "coderFromArrayLen", desc := "([BI)B" } : Jvm.MethodName) jdk_52_method_15_code (2 : Nat) (Option.some Jvm.ClassFile.FieldType.byte)).before args0 about1 = true := code_word (m := ⟨9, 7⟩) (meth := k9m7) (c := k9c7) (by decide +kernel) rfl rfl rfl (by decide +kernel)
set_option maxRecDepth 65536 in
theorem w_c11 : (Jvm.Cond.code ({ cls := "com/example/spool/spool/http/HttpError", name := "methodNotAllowed", desc := "(Ljava/lang/String;)Lcom/example/spool/spool/http/HttpError;" } : Jvm.MethodName) prog_2_method_8_code (2 : Nat) (Option.some (Jvm.ClassFile.FieldType.object "com/example/spool/spool/http/HttpError"))).before args0 about1 = true := code_word (m := ⟨12, 0⟩) (meth := k12m0) (c := k12c0) (by decide +kernel) rfl rfl rfl (by decide +kernel)
set_option maxRecDepth 65536 in
theorem w_c12 : (Jvm.Cond.code ({ cls := "java/lang/StringBuilder", name := "<init>", desc := "()V" } : Jvm.MethodName) jdk_67_method_1_code (1 : Nat) (Option.none : Option Jvm.ClassFile.FieldType)).before args0 about1 = true := code_word (m := ⟨15, 0⟩) (meth := k15m0) (c := k15c0) (by decide +kernel) rfl rfl rfl (by decide +kernel)
set_option maxRecDepth 65536 in
theorem w_c13 : (Jvm.Cond.code ({ cls := "java/lang/AbstractStringBuilder", name := "<init>", desc := "(I)V" } : Jvm.MethodName) jdk_68_method_2_code (2 : Nat) (Option.none : Option Jvm.ClassFile.FieldType)).before args0 about1 = true := code_word (m := ⟨14, 1⟩) (meth := k14m1) (c := k14c1) (by decide +kernel) rfl rfl rfl (by decide +kernel)
set_option maxRecDepth 65536 in
theorem w_c14 : (Jvm.Cond.code ({ cls := "java/lang/StringBuilder", name := "append", desc := "(Ljava/lang/String;)Ljava/lang/StringBuilder;" } : Jvm.MethodName) jdk_67_method_7_code (2 : Nat) (Option.some (Jvm.ClassFile.FieldType.object "java/lang/StringBuilder"))).before args0 about1 = true := code_word (m := ⟨15, 1⟩) (meth := k15m1) (c := k15c1) (by decide +kernel) rfl rfl rfl (by decide +kernel)
set_option maxRecDepth 65536 in
theorem w_c15 : (Jvm.Cond.code ({ cls := "java/lang/AbstractStringBuilder", name := "append", desc := "(Ljava/lang/String;)Ljava/lang/AbstractStringBuilder;" } : Jvm.MethodName) jdk_68_method_22_code (3 : Nat) (Option.some (Jvm.ClassFile.FieldType.object "java/lang/AbstractStringBuilder"))).before args0 about1 = true := code_word (m := ⟨14, 6⟩) (meth := k14m6) (c := k14c6) (by decide +kernel) rfl rfl rfl (by decide +kernel)
set_option maxRecDepth 65536 in
theorem w_c16 : (Jvm.Cond.code ({ cls := "java/lang/String", name := "length", desc := "()I" } : Jvm.MethodName) jdk_42_method_54_code (1 : Nat) (Option.some Jvm.ClassFile.FieldType.int)).before args0 about1 = true := code_word (m := ⟨7, 3⟩) (meth := k7m3) (c := k7c3) (by decide +kernel) rfl rfl rfl (by decide +kernel)
set_option maxRecDepth 65536 in
theorem w_c17 : (Jvm.Cond.code ({ cls := "java/lang/String", name := "coder", desc := "()B" } : Jvm.MethodName) jdk_42_method_152_code (1 : Nat) (Option.some Jvm.ClassFile.FieldType.byte)).before args0 about1 = true := code_word (m := ⟨7, 10⟩) (meth := k7m10) (c := k7c10) (by decide +kernel) rfl rfl rfl (by decide +kernel)
set_option maxRecDepth 65536 in
theorem w_c18 : (Jvm.Cond.code ({ cls := "java/lang/AbstractStringBuilder", name := "ensureCapacityInternal", desc := "(I)V" } : Jvm.MethodName) jdk_68_method_9_code (3 : Nat) (Option.none : Option Jvm.ClassFile.FieldType)).before args0 about1 = true := code_word (m := ⟨14, 3⟩) (meth := k14m3) (c := k14c3) (by decide +kernel) rfl rfl rfl (by decide +kernel)
set_option maxRecDepth 65536 in
theorem w_c19 : (Jvm.Cond.code ({ cls := "java/lang/AbstractStringBuilder", name := "newCapacity", desc := "(I)I" } : Jvm.MethodName) jdk_68_method_10_code (6 : Nat) (Option.some Jvm.ClassFile.FieldType.int)).before args0 about1 = true := code_word (m := ⟨14, 4⟩) (meth := k14m4) (c := k14c4) (by decide +kernel) rfl rfl rfl (by decide +kernel)
set_option maxRecDepth 65536 in
theorem w_c20 : (Jvm.Cond.code ({ cls := "jdk/internal/util/ArraysSupport", name := "newLength", desc := "(III)I" } : Jvm.MethodName) jdk_48_method_27_code (4 : Nat) (Option.some Jvm.ClassFile.FieldType.int)).before args0 about1 = true := code_word (m := ⟨16, 1⟩) (meth := k16m1) (c := k16c1) (by decide +kernel) rfl rfl rfl (by decide +kernel)
set_option maxRecDepth 65536 in
theorem w_c21 : (Jvm.Cond.code ({ cls := "java/lang/Math", name := "max", desc := "(II)I" } : Jvm.MethodName) jdk_29_method_65_code (2 : Nat) (Option.some Jvm.ClassFile.FieldType.int)).before args0 about1 = true := code_word (m := ⟨17, 1⟩) (meth := k17m1) (c := k17c1) (by decide +kernel) rfl rfl rfl (by decide +kernel)
set_option maxRecDepth 65536 in
theorem w_c22 : (Jvm.Cond.code ({ cls := "java/util/Arrays", name := "copyOf", desc := "([BI)[B" } : Jvm.MethodName) jdk_65_method_121_code (3 : Nat) (Option.some (Jvm.ClassFile.FieldType.array Jvm.ClassFile.FieldType.byte))).before args0 about1 = true := code_word (m := ⟨18, 1⟩) (meth := k18m1) (c := k18c1) (by decide +kernel) rfl rfl rfl (by decide +kernel)
set_option maxRecDepth 65536 in
theorem w_c23 : (Jvm.Cond.code ({ cls := "java/lang/Math", name := "min", desc := "(II)I" } : Jvm.MethodName) jdk_29_method_69_code (2 : Nat) (Option.some Jvm.ClassFile.FieldType.int)).before args0 about1 = true := code_word (m := ⟨17, 2⟩) (meth := k17m2) (c := k17c2) (by decide +kernel) rfl rfl rfl (by decide +kernel)
set_option maxRecDepth 65536 in
theorem w_c24 : (Jvm.Cond.code ({ cls := "java/lang/AbstractStringBuilder", name := "putStringAt", desc := "(ILjava/lang/String;)V" } : Jvm.MethodName) jdk_68_method_73_code (3 : Nat) (Option.none : Option Jvm.ClassFile.FieldType)).before args0 about1 = true := code_word (m := ⟨14, 10⟩) (meth := k14m10) (c := k14c10) (by decide +kernel) rfl rfl rfl (by decide +kernel)
set_option maxRecDepth 65536 in
theorem w_c25 : (Jvm.Cond.code ({ cls := "java/lang/AbstractStringBuilder", name := "inflateIfNeededFor", desc := "(Ljava/lang/String;)V" } : Jvm.MethodName) jdk_68_method_71_code (2 : Nat) (Option.none : Option Jvm.ClassFile.FieldType)).before args0 about1 = true := code_word (m := ⟨14, 9⟩) (meth := k14m9) (c := k14c9) (by decide +kernel) rfl rfl rfl (by decide +kernel)
set_option maxRecDepth 65536 in
theorem w_c26 : (Jvm.Cond.code ({ cls := "java/lang/String", name := "getBytes", desc := "([BIB)V" } : Jvm.MethodName) jdk_42_method_147_code (4 : Nat) (Option.none : Option Jvm.ClassFile.FieldType)).before args0 about1 = true := code_word (m := ⟨7, 6⟩) (meth := k7m6) (c := k7c6) (by decide +kernel) rfl rfl rfl (by decide +kernel)
set_option maxRecDepth 65536 in
theorem w_c27 : (Jvm.Cond.code ({ cls := "java/lang/StringBuilder", name := "toString", desc := "()Ljava/lang/String;" } : Jvm.MethodName) jdk_67_method_42_code (1 : Nat) (Option.some (Jvm.ClassFile.FieldType.object "java/lang/String"))).before args0 about1 = true := code_word (m := ⟨15, 2⟩) (meth := k15m2) (c := k15c2) (by decide +kernel) rfl rfl rfl (by decide +kernel)
set_option maxRecDepth 65536 in
theorem w_c28 : (Jvm.Cond.code ({ cls := "java/lang/String", name := "<init>", desc := "(Ljava/lang/StringBuilder;)V" } : Jvm.MethodName) jdk_42_method_53_code (2 : Nat) (Option.none : Option Jvm.ClassFile.FieldType)).before args0 about1 = true := code_word (m := ⟨7, 2⟩) (meth := k7m2) (c := k7c2) (by decide +kernel) rfl rfl rfl (by decide +kernel)
set_option maxRecDepth 65536 in
theorem w_c29 : (Jvm.Cond.code ({ cls := "java/lang/String", name := "<init>", desc := "(Ljava/lang/AbstractStringBuilder;Ljava/lang/Void;)V" } : Jvm.MethodName) jdk_42_method_150_code (5 : Nat) (Option.none : Option Jvm.ClassFile.FieldType)).before args0 about1 = true := code_word (m := ⟨7, 8⟩) (meth := k7m8) (c := k7c8) (by decide +kernel) rfl rfl rfl (by decide +kernel)
set_option maxRecDepth 65536 in
theorem w_c30 : (Jvm.Cond.code ({ cls := "java/lang/AbstractStringBuilder", name := "getValue", desc := "()[B" } : Jvm.MethodName) jdk_68_method_64_code (1 : Nat) (Option.some (Jvm.ClassFile.FieldType.array Jvm.ClassFile.FieldType.byte))).before args0 about1 = true := code_word (m := ⟨14, 7⟩) (meth := k14m7) (c := k14c7) (by decide +kernel) rfl rfl rfl (by decide +kernel)
set_option maxRecDepth 65536 in
theorem w_c31 : (Jvm.Cond.code ({ cls := "java/lang/StringBuilder", name := "length", desc := "()I" } : Jvm.MethodName) jdk_67_method_93_code (1 : Nat) (Option.some Jvm.ClassFile.FieldType.int)).before args0 about1 = true := code_word (m := ⟨15, 3⟩) (meth := k15m3) (c := k15c3) (by decide +kernel) rfl rfl rfl (by decide +kernel)
set_option maxRecDepth 65536 in
theorem w_c32 : (Jvm.Cond.code ({ cls := "java/lang/AbstractStringBuilder", name := "length", desc := "()I" } : Jvm.MethodName) jdk_68_method_6_code (1 : Nat) (Option.some Jvm.ClassFile.FieldType.int)).before args0 about1 = true := code_word (m := ⟨14, 2⟩) (meth := k14m2) (c := k14c2) (by decide +kernel) rfl rfl rfl (by decide +kernel)
set_option maxRecDepth 65536 in
theorem w_c33 : (Jvm.Cond.code ({ cls := "java/lang/AbstractStringBuilder", name := "isLatin1", desc := "()Z" } : Jvm.MethodName) jdk_68_method_68_code (1 : Nat) (Option.some Jvm.ClassFile.FieldType.boolean)).before args0 about1 = true := code_word (m := ⟨14, 8⟩) (meth := k14m8) (c := k14c8) (by decide +kernel) rfl rfl rfl (by decide +kernel)
set_option maxRecDepth 65536 in
theorem w_c34 : (Jvm.Cond.code ({ cls := "java/util/Arrays", name := "copyOfRange", desc := "([BII)[B" } : Jvm.MethodName) jdk_65_method_132_code (3 : Nat) (Option.some (Jvm.ClassFile.FieldType.array Jvm.ClassFile.FieldType.byte))).before args0 about1 = true := code_word (m := ⟨18, 3⟩) (meth := k18m3) (c := k18c3) (by decide +kernel) rfl rfl rfl (by decide +kernel)
set_option maxRecDepth 65536 in
theorem w_c35 : (Jvm.Cond.code ({ cls := "java/util/Arrays", name := "copyOfRangeByte", desc := "([BII)[B" } : Jvm.MethodName) jdk_65_method_133_code (5 : Nat) (Option.some (Jvm.ClassFile.FieldType.array Jvm.ClassFile.FieldType.byte))).before args0 about1 = true := code_word (m := ⟨18, 4⟩) (meth := k18m4) (c := k18c4) (by decide +kernel) rfl rfl rfl (by decide +kernel)
set_option maxRecDepth 65536 in
theorem w_c36 : (Jvm.Cond.code ({ cls := "java/util/Arrays", name := "checkLength", desc := "(II)V" } : Jvm.MethodName) jdk_65_method_131_code (2 : Nat) (Option.none : Option Jvm.ClassFile.FieldType)).before args0 about1 = true := code_word (m := ⟨18, 2⟩) (meth := k18m2) (c := k18c2) (by decide +kernel) rfl rfl rfl (by decide +kernel)
set_option maxRecDepth 65536 in
theorem w_c37 : (Jvm.Cond.code ({ cls := "com/example/spool/spool/http/HttpError", name := "<init>", desc := "(ILjava/lang/String;Ljava/lang/String;)V" } : Jvm.MethodName) prog_2_method_9_code (4 : Nat) (Option.none : Option Jvm.ClassFile.FieldType)).before args0 about1 = true := code_word (m := ⟨12, 1⟩) (meth := k12m1) (c := k12c1) (by decide +kernel) rfl rfl rfl (by decide +kernel)
set_option maxRecDepth 65536 in
theorem w_c38 : (Jvm.Cond.code ({ cls := "java/lang/Exception", name := "<init>", desc := "(Ljava/lang/String;Ljava/lang/Throwable;ZZ)V" } : Jvm.MethodName) jdk_59_method_5_code (5 : Nat) (Option.none : Option Jvm.ClassFile.FieldType)).before args0 about1 = true := code_word (m := ⟨11, 1⟩) (meth := k11m1) (c := k11c1) (by decide +kernel) rfl rfl rfl (by decide +kernel)
set_option maxRecDepth 65536 in
theorem w_c39 : (Jvm.Cond.code ({ cls := "java/lang/Throwable", name := "<init>", desc := "(Ljava/lang/String;Ljava/lang/Throwable;ZZ)V" } : Jvm.MethodName) jdk_78_method_5_code (5 : Nat) (Option.none : Option Jvm.ClassFile.FieldType)).before args0 about1 = true := code_word (m := ⟨10, 1⟩) (meth := k10m1) (c := k10c1) (by decide +kernel) rfl rfl rfl (by decide +kernel)
set_option maxRecDepth 65536 in
theorem w_c40 : (Jvm.Cond.code ({ cls := "com/example/spool/spool/http/HttpError", name := "allowed", desc := "()Ljava/lang/String;" } : Jvm.MethodName) prog_2_method_12_code (1 : Nat) (Option.some (Jvm.ClassFile.FieldType.object "java/lang/String"))).before args0 about1 = true := code_word (m := ⟨12, 4⟩) (meth := k12m4) (c := k12c4) (by decide +kernel) rfl rfl rfl (by decide +kernel)
set_option maxRecDepth 65536 in
theorem w_c41 : (Jvm.Cond.code ({ cls := "java/lang/Throwable", name := "getMessage", desc := "()Ljava/lang/String;" } : Jvm.MethodName) jdk_78_method_6_code (1 : Nat) (Option.some (Jvm.ClassFile.FieldType.object "java/lang/String"))).before args0 about1 = true := code_word (m := ⟨10, 2⟩) (meth := k10m2) (c := k10c2) (by decide +kernel) rfl rfl rfl (by decide +kernel)
set_option maxRecDepth 65536 in
theorem w_c42 : (Jvm.Cond.code ({ cls := "com/example/spool/spool/http/HttpError", name := "status", desc := "()I" } : Jvm.MethodName) prog_2_method_10_code (1 : Nat) (Option.some Jvm.ClassFile.FieldType.int)).before args0 about1 = true := code_word (m := ⟨12, 2⟩) (meth := k12m2) (c := k12c2) (by decide +kernel) rfl rfl rfl (by decide +kernel)
set_option maxRecDepth 65536 in
theorem w_c43 : (Jvm.Cond.code ({ cls := "com/example/spool/spool/http/HttpError", name := "code", desc := "()Ljava/lang/String;" } : Jvm.MethodName) prog_2_method_11_code (1 : Nat) (Option.some (Jvm.ClassFile.FieldType.object "java/lang/String"))).before args0 about1 = true := code_word (m := ⟨12, 3⟩) (meth := k12m3) (c := k12c3) (by decide +kernel) rfl rfl rfl (by decide +kernel)
set_option maxRecDepth 65536 in
theorem w_c44 : (Jvm.Cond.code ({ cls := "java/lang/String", name := "equals", desc := "(Ljava/lang/Object;)Z" } : Jvm.MethodName) jdk_42_method_66_code (3 : Nat) (Option.some Jvm.ClassFile.FieldType.boolean)).before args0 about1 = true := code_word (m := ⟨7, 4⟩) (meth := k7m4) (c := k7c4) (by decide +kernel) rfl rfl rfl (by decide +kernel)
set_option maxRecDepth 65536 in
theorem w_c45 : (Jvm.Cond.code ({ cls := "java/lang/StringLatin1", name := "equals", desc := "([B[B)Z" } : Jvm.MethodName) jdk_43_method_13_code (3 : Nat) (Option.some Jvm.ClassFile.FieldType.boolean)).before args0 about1 = true := code_word (m := ⟨8, 2⟩) (meth := k8m2) (c := k8c2) (by decide +kernel) rfl rfl rfl (by decide +kernel)
set_option maxRecDepth 65536 in
theorem w_c46 : (Jvm.Cond.code ({ cls := "java/lang/StringUTF16", name := "toBytes", desc := "([CII)[B" } : Jvm.MethodName) jdk_52_method_14_code (5 : Nat) (Option.some (Jvm.ClassFile.FieldType.array Jvm.ClassFile.FieldType.byte))).before args0 about1 = true := code_word (m := ⟨9, 6⟩) (meth := k9m6) (c := k9c6) (by decide +kernel) rfl rfl rfl (by decide +kernel)
set_option maxRecDepth 65536 in
theorem w_c47 : (Jvm.Cond.code ({ cls := "java/lang/StringUTF16", name := "newBytesFor", desc := "(I)[B" } : Jvm.MethodName) jdk_52_method_2_code (1 : Nat) (Option.some (Jvm.ClassFile.FieldType.array Jvm.ClassFile.FieldType.byte))).before args0 about1 = true := code_word (m := ⟨9, 1⟩) (meth := k9m1) (c := k9c1) (by decide +kernel) rfl rfl rfl (by decide +kernel)
set_option maxRecDepth 65536 in
theorem w_c48 : (Jvm.Cond.code ({ cls := "java/lang/StringUTF16", name := "newBytesLength", desc := "(I)I" } : Jvm.MethodName) jdk_52_method_3_code (1 : Nat) (Option.some Jvm.ClassFile.FieldType.int)).before args0 about1 = true := code_word (m := ⟨9, 2⟩) (meth := k9m2) (c := k9c2) (by decide +kernel) rfl rfl rfl (by decide +kernel)
set_option maxRecDepth 65536 in
theorem w_c49 : (Jvm.Cond.code ({ cls := "java/lang/StringUTF16", name := "putChar", desc := "([BII)V" } : Jvm.MethodName) jdk_52_method_4_code (3 : Nat) (Option.none : Option Jvm.ClassFile.FieldType)).before args0 about1 = true := code_word (m := ⟨9, 3⟩) (meth := k9m3) (c := k9c3) (by decide +kernel) rfl rfl rfl (by decide +kernel)
set_option maxRecDepth 65536 in
theorem w_c50 : (Jvm.Cond.code ({ cls := "java/lang/StringUTF16", name := "getChar", desc := "([BI)C" } : Jvm.MethodName) jdk_52_method_5_code (2 : Nat) (Option.some Jvm.ClassFile.FieldType.char)).before args0 about1 = true := code_word (m := ⟨9, 4⟩) (meth := k9m4) (c := k9c4) (by decide +kernel) rfl rfl rfl (by decide +kernel)
set_option maxRecDepth 65536 in
theorem w_c51 : (Jvm.Cond.code ({ cls := "java/lang/AbstractStringBuilder", name := "inflate", desc := "()V" } : Jvm.MethodName) jdk_68_method_11_code (2 : Nat) (Option.none : Option Jvm.ClassFile.FieldType)).before args0 about1 = true := code_word (m := ⟨14, 5⟩) (meth := k14m5) (c := k14c5) (by decide +kernel) rfl rfl rfl (by decide +kernel)
set_option maxRecDepth 65536 in
theorem w_c52 : (Jvm.Cond.code ({ cls := "java/lang/StringLatin1", name := "inflate", desc := "([BI[BII)V" } : Jvm.MethodName) jdk_43_method_50_code (5 : Nat) (Option.none : Option Jvm.ClassFile.FieldType)).before args0 about1 = true := code_word (m := ⟨8, 4⟩) (meth := k8m4) (c := k8c4) (by decide +kernel) rfl rfl rfl (by decide +kernel)
set_option maxRecDepth 65536 in
theorem w_c53 : (Jvm.Cond.code ({ cls := "java/lang/StringUTF16", name := "inflate", desc := "([BI[BII)V" } : Jvm.MethodName) jdk_52_method_86_code (6 : Nat) (Option.none : Option Jvm.ClassFile.FieldType)).before args0 about1 = true := code_word (m := ⟨9, 11⟩) (meth := k9m11) (c := k9c11) (by decide +kernel) rfl rfl rfl (by decide +kernel)
set_option maxRecDepth 65536 in
theorem w_c54 : (Jvm.Cond.code ({ cls := "java/lang/StringUTF16", name := "checkBoundsOffCount", desc := "(II[B)V" } : Jvm.MethodName) jdk_52_method_94_code (3 : Nat) (Option.none : Option Jvm.ClassFile.FieldType)).before args0 about1 = true := code_word (m := ⟨9, 12⟩) (meth := k9m12) (c := k9c12) (by decide +kernel) rfl rfl rfl (by decide +kernel)
set_option maxRecDepth 65536 in
theorem w_c55 : (Jvm.Cond.code ({ cls := "java/lang/StringUTF16", name := "length", desc := "([B)I" } : Jvm.MethodName) jdk_52_method_6_code (1 : Nat) (Option.some Jvm.ClassFile.FieldType.int)).before args0 about1 = true := code_word (m := ⟨9, 5⟩) (meth := k9m5) (c := k9c5) (by decide +kernel) rfl rfl rfl (by decide +kernel)
set_option maxRecDepth 65536 in
theorem w_c56 : (Jvm.Cond.code ({ cls := "java/lang/String", name := "checkBoundsOffCount", desc := "(III)I" } : Jvm.MethodName) jdk_42_method_157_code (3 : Nat) (Option.some Jvm.ClassFile.FieldType.int)).before args0 about1 = true := code_word (m := ⟨7, 11⟩) (meth := k7m11) (c := k7c11) (by decide +kernel) rfl rfl rfl (by decide +kernel)
set_option maxRecDepth 65536 in
theorem w_c57 : (Jvm.Cond.code ({ cls := "jdk/internal/util/Preconditions", name := "checkFromIndexSize", desc := "(IIILjava/util/function/BiFunction;)I" } : Jvm.MethodName) jdk_41_method_13_code (4 : Nat) (Option.some Jvm.ClassFile.FieldType.int)).before args0 about1 = true := code_word (m := ⟨20, 1⟩) (meth := k20m1) (c := k20c1) (by decide +kernel) rfl rfl rfl (by decide +kernel)
set_option maxRecDepth 65536 in
theorem w_c58 : (Jvm.Cond.code ({ cls := "java/lang/StringUTF16", name := "toBytes", desc := "(C)[B" } : Jvm.MethodName) jdk_52_method_24_code (2 : Nat) (Option.some (Jvm.ClassFile.FieldType.array Jvm.ClassFile.FieldType.byte))).before args0 about1 = true := code_word (m := ⟨9, 10⟩) (meth := k9m10) (c := k9c10) (by decide +kernel) rfl rfl rfl (by decide +kernel)
def codes1 : List Jvm.Cond := [Jvm.Cond.code x code maxLocals ret, Jvm.Cond.code ({ cls := "java/lang/String", name := "valueOf", desc := "(C)Ljava/lang/String;" } : Jvm.MethodName) jdk_42_method_139_code (1 : Nat) (Option.some (Jvm.ClassFile.FieldType.object "java/lang/String")), Jvm.Cond.code ({ cls := "java/lang/StringLatin1", name := "canEncode", desc := "(C)Z" } : Jvm.MethodName) jdk_43_method_3_code (1 : Nat) (Option.some Jvm.ClassFile.FieldType.boolean), Jvm.Cond.code ({ cls := "java/lang/StringLatin1", name := "toBytes", desc := "(C)[B" } : Jvm.MethodName) jdk_43_method_46_code (1 : Nat) (Option.some (Jvm.ClassFile.FieldType.array Jvm.ClassFile.FieldType.byte)), Jvm.Cond.code ({ cls := "java/lang/String", name := "<init>", desc := "([BB)V" } : Jvm.MethodName) jdk_42_method_151_code (3 : Nat) (Option.none : Option Jvm.ClassFile.FieldType), Jvm.Cond.code ({ cls := "java/lang/Object", name := "<init>", desc := "()V" } : Jvm.MethodName) object_method_1_code (1 : Nat) (Option.none : Option Jvm.ClassFile.FieldType), Jvm.Cond.code ({ cls := "java/lang/String", name := "<init>", desc := "([C)V" } : Jvm.MethodName) jdk_42_method_3_code (2 : Nat) (Option.none : Option Jvm.ClassFile.FieldType), Jvm.Cond.code ({ cls := "java/lang/String", name := "<init>", desc := "([CIILjava/lang/Void;)V" } : Jvm.MethodName) jdk_42_method_149_code (6 : Nat) (Option.none : Option Jvm.ClassFile.FieldType), Jvm.Cond.code ({ cls := "java/lang/StringUTF16", name := "compress", desc := "([CII)[B" } : Jvm.MethodName) jdk_52_method_16_code (6 : Nat) (Option.some (Jvm.ClassFile.FieldType.array Jvm.ClassFile.FieldType.byte)), Jvm.Cond.code ({ cls := "java/lang/StringUTF16", name := "compress", desc := "([CI[BII)I" } : Jvm.MethodName) jdk_52_method_21_code (7 : Nat) (Option.some Jvm.ClassFile.FieldType.int), Jvm.Cond.code ({ cls := "java/lang/StringUTF16", name := "coderFromArrayLen", desc := "([BI)B" } : Jvm.MethodName) jdk_52_method_15_code (2 : Nat) (Option.some Jvm.ClassFile.FieldType.byte), Jvm.Cond.code ({ cls := "com/example/spool/spool/http/HttpError", name := "methodNotAllowed", desc := "(Ljava/lang/String;)Lcom/example/spool/spool/http/HttpError;" } : Jvm.MethodName) prog_2_method_8_code (2 : Nat) (Option.some (Jvm.ClassFile.FieldType.object "com/example/spool/spool/http/HttpError")), Jvm.Cond.code ({ cls := "java/lang/StringBuilder", name := "<init>", desc := "()V" } : Jvm.MethodName) jdk_67_method_1_code (1 : Nat) (Option.none : Option Jvm.ClassFile.FieldType), Jvm.Cond.code ({ cls := "java/lang/AbstractStringBuilder", name := "<init>", desc := "(I)V" } : Jvm.MethodName) jdk_68_method_2_code (2 : Nat) (Option.none : Option Jvm.ClassFile.FieldType), Jvm.Cond.code ({ cls := "java/lang/StringBuilder", name := "append", desc := "(Ljava/lang/String;)Ljava/lang/StringBuilder;" } : Jvm.MethodName) jdk_67_method_7_code (2 : Nat) (Option.some (Jvm.ClassFile.FieldType.object "java/lang/StringBuilder")), Jvm.Cond.code ({ cls := "java/lang/AbstractStringBuilder", name := "append", desc := "(Ljava/lang/String;)Ljava/lang/AbstractStringBuilder;" } : Jvm.MethodName) jdk_68_method_22_code (3 : Nat) (Option.some (Jvm.ClassFile.FieldType.object "java/lang/AbstractStringBuilder")), Jvm.Cond.code ({ cls := "java/lang/String", name := "length", desc := "()I" } : Jvm.MethodName) jdk_42_method_54_code (1 : Nat) (Option.some Jvm.ClassFile.FieldType.int), Jvm.Cond.code ({ cls := "java/lang/String", name := "coder", desc := "()B" } : Jvm.MethodName) jdk_42_method_152_code (1 : Nat) (Option.some Jvm.ClassFile.FieldType.byte), Jvm.Cond.code ({ cls := "java/lang/AbstractStringBuilder", name := "ensureCapacityInternal", desc := "(I)V" } : Jvm.MethodName) jdk_68_method_9_code (3 : Nat) (Option.none : Option Jvm.ClassFile.FieldType), Jvm.Cond.code ({ cls := "java/lang/AbstractStringBuilder", name := "newCapacity", desc := "(I)I" } : Jvm.MethodName) jdk_68_method_10_code (6 : Nat) (Option.some Jvm.ClassFile.FieldType.int), Jvm.Cond.code ({ cls := "jdk/internal/util/ArraysSupport", name := "newLength", desc := "(III)I" } : Jvm.MethodName) jdk_48_method_27_code (4 : Nat) (Option.some Jvm.ClassFile.FieldType.int), Jvm.Cond.code ({ cls := "java/lang/Math", name := "max", desc := "(II)I" } : Jvm.MethodName) jdk_29_method_65_code (2 : Nat) (Option.some Jvm.ClassFile.FieldType.int), Jvm.Cond.code ({ cls := "java/util/Arrays", name := "copyOf", desc := "([BI)[B" } : Jvm.MethodName) jdk_65_method_121_code (3 : Nat) (Option.some (Jvm.ClassFile.FieldType.array Jvm.ClassFile.FieldType.byte)), Jvm.Cond.code ({ cls := "java/lang/Math", name := "min", desc := "(II)I" } : Jvm.MethodName) jdk_29_method_69_code (2 : Nat) (Option.some Jvm.ClassFile.FieldType.int), Jvm.Cond.code ({ cls := "java/lang/AbstractStringBuilder", name := "putStringAt", desc := "(ILjava/lang/String;)V" } : Jvm.MethodName) jdk_68_method_73_code (3 : Nat) (Option.none : Option Jvm.ClassFile.FieldType), Jvm.Cond.code ({ cls := "java/lang/AbstractStringBuilder", name := "inflateIfNeededFor", desc := "(Ljava/lang/String;)V" } : Jvm.MethodName) jdk_68_method_71_code (2 : Nat) (Option.none : Option Jvm.ClassFile.FieldType), Jvm.Cond.code ({ cls := "java/lang/String", name := "getBytes", desc := "([BIB)V" } : Jvm.MethodName) jdk_42_method_147_code (4 : Nat) (Option.none : Option Jvm.ClassFile.FieldType), Jvm.Cond.code ({ cls := "java/lang/StringBuilder", name := "toString", desc := "()Ljava/lang/String;" } : Jvm.MethodName) jdk_67_method_42_code (1 : Nat) (Option.some (Jvm.ClassFile.FieldType.object "java/lang/String")), Jvm.Cond.code ({ cls := "java/lang/String", name := "<init>", desc := "(Ljava/lang/StringBuilder;)V" } : Jvm.MethodName) jdk_42_method_53_code (2 : Nat) (Option.none : Option Jvm.ClassFile.FieldType), Jvm.Cond.code ({ cls := "java/lang/String", name := "<init>", desc := "(Ljava/lang/AbstractStringBuilder;Ljava/lang/Void;)V" } : Jvm.MethodName) jdk_42_method_150_code (5 : Nat) (Option.none : Option Jvm.ClassFile.FieldType), Jvm.Cond.code ({ cls := "java/lang/AbstractStringBuilder", name := "getValue", desc := "()[B" } : Jvm.MethodName) jdk_68_method_64_code (1 : Nat) (Option.some (Jvm.ClassFile.FieldType.array Jvm.ClassFile.FieldType.byte)), Jvm.Cond.code ({ cls := "java/lang/StringBuilder", name := "length", desc := "()I" } : Jvm.MethodName) jdk_67_method_93_code (1 : Nat) (Option.some Jvm.ClassFile.FieldType.int), Jvm.Cond.code ({ cls := "java/lang/AbstractStringBuilder", name := "length", desc := "()I" } : Jvm.MethodName) jdk_68_method_6_code (1 : Nat) (Option.some Jvm.ClassFile.FieldType.int), Jvm.Cond.code ({ cls := "java/lang/AbstractStringBuilder", name := "isLatin1", desc := "()Z" } : Jvm.MethodName) jdk_68_method_68_code (1 : Nat) (Option.some Jvm.ClassFile.FieldType.boolean), Jvm.Cond.code ({ cls := "java/util/Arrays", name := "copyOfRange", desc := "([BII)[B" } : Jvm.MethodName) jdk_65_method_132_code (3 : Nat) (Option.some (Jvm.ClassFile.FieldType.array Jvm.ClassFile.FieldType.byte)), Jvm.Cond.code ({ cls := "java/util/Arrays", name := "copyOfRangeByte", desc := "([BII)[B" } : Jvm.MethodName) jdk_65_method_133_code (5 : Nat) (Option.some (Jvm.ClassFile.FieldType.array Jvm.ClassFile.FieldType.byte)), Jvm.Cond.code ({ cls := "java/util/Arrays", name := "checkLength", desc := "(II)V" } : Jvm.MethodName) jdk_65_method_131_code (2 : Nat) (Option.none : Option Jvm.ClassFile.FieldType), Jvm.Cond.code ({ cls := "com/example/spool/spool/http/HttpError", name := "<init>", desc := "(ILjava/lang/String;Ljava/lang/String;)V" } : Jvm.MethodName) prog_2_method_9_code (4 : Nat) (Option.none : Option Jvm.ClassFile.FieldType), Jvm.Cond.code ({ cls := "java/lang/Exception", name := "<init>", desc := "(Ljava/lang/String;Ljava/lang/Throwable;ZZ)V" } : Jvm.MethodName) jdk_59_method_5_code (5 : Nat) (Option.none : Option Jvm.ClassFile.FieldType), Jvm.Cond.code ({ cls := "java/lang/Throwable", name := "<init>", desc := "(Ljava/lang/String;Ljava/lang/Throwable;ZZ)V" } : Jvm.MethodName) jdk_78_method_5_code (5 : Nat) (Option.none : Option Jvm.ClassFile.FieldType), Jvm.Cond.code ({ cls := "com/example/spool/spool/http/HttpError", name := "allowed", desc := "()Ljava/lang/String;" } : Jvm.MethodName) prog_2_method_12_code (1 : Nat) (Option.some (Jvm.ClassFile.FieldType.object "java/lang/String")), Jvm.Cond.code ({ cls := "java/lang/Throwable", name := "getMessage", desc := "()Ljava/lang/String;" } : Jvm.MethodName) jdk_78_method_6_code (1 : Nat) (Option.some (Jvm.ClassFile.FieldType.object "java/lang/String")), Jvm.Cond.code ({ cls := "com/example/spool/spool/http/HttpError", name := "status", desc := "()I" } : Jvm.MethodName) prog_2_method_10_code (1 : Nat) (Option.some Jvm.ClassFile.FieldType.int), Jvm.Cond.code ({ cls := "com/example/spool/spool/http/HttpError", name := "code", desc := "()Ljava/lang/String;" } : Jvm.MethodName) prog_2_method_11_code (1 : Nat) (Option.some (Jvm.ClassFile.FieldType.object "java/lang/String")), Jvm.Cond.code ({ cls := "java/lang/String", name := "equals", desc := "(Ljava/lang/Object;)Z" } : Jvm.MethodName) jdk_42_method_66_code (3 : Nat) (Option.some Jvm.ClassFile.FieldType.boolean), Jvm.Cond.code ({ cls := "java/lang/StringLatin1", name := "equals", desc := "([B[B)Z" } : Jvm.MethodName) jdk_43_method_13_code (3 : Nat) (Option.some Jvm.ClassFile.FieldType.boolean), Jvm.Cond.code ({ cls := "java/lang/StringUTF16", name := "toBytes", desc := "([CII)[B" } : Jvm.MethodName) jdk_52_method_14_code (5 : Nat) (Option.some (Jvm.ClassFile.FieldType.array Jvm.ClassFile.FieldType.byte)), Jvm.Cond.code ({ cls := "java/lang/StringUTF16", name := "newBytesFor", desc := "(I)[B" } : Jvm.MethodName) jdk_52_method_2_code (1 : Nat) (Option.some (Jvm.ClassFile.FieldType.array Jvm.ClassFile.FieldType.byte)), Jvm.Cond.code ({ cls := "java/lang/StringUTF16", name := "newBytesLength", desc := "(I)I" } : Jvm.MethodName) jdk_52_method_3_code (1 : Nat) (Option.some Jvm.ClassFile.FieldType.int), Jvm.Cond.code ({ cls := "java/lang/StringUTF16", name := "putChar", desc := "([BII)V" } : Jvm.MethodName) jdk_52_method_4_code (3 : Nat) (Option.none : Option Jvm.ClassFile.FieldType), Jvm.Cond.code ({ cls := "java/lang/StringUTF16", name := "getChar", desc := "([BI)C" } : Jvm.MethodName) jdk_52_method_5_code (2 : Nat) (Option.some Jvm.ClassFile.FieldType.char), Jvm.Cond.code ({ cls := "java/lang/AbstractStringBuilder", name := "inflate", desc := "()V" } : Jvm.MethodName) jdk_68_method_11_code (2 : Nat) (Option.none : Option Jvm.ClassFile.FieldType), Jvm.Cond.code ({ cls := "java/lang/StringLatin1", name := "inflate", desc := "([BI[BII)V" } : Jvm.MethodName) jdk_43_method_50_code (5 : Nat) (Option.none : Option Jvm.ClassFile.FieldType), Jvm.Cond.code ({ cls := "java/lang/StringUTF16", name := "inflate", desc := "([BI[BII)V" } : Jvm.MethodName) jdk_52_method_86_code (6 : Nat) (Option.none : Option Jvm.ClassFile.FieldType), Jvm.Cond.code ({ cls := "java/lang/StringUTF16", name := "checkBoundsOffCount", desc := "(II[B)V" } : Jvm.MethodName) jdk_52_method_94_code (3 : Nat) (Option.none : Option Jvm.ClassFile.FieldType), Jvm.Cond.code ({ cls := "java/lang/StringUTF16", name := "length", desc := "([B)I" } : Jvm.MethodName) jdk_52_method_6_code (1 : Nat) (Option.some Jvm.ClassFile.FieldType.int), Jvm.Cond.code ({ cls := "java/lang/String", name := "checkBoundsOffCount", desc := "(III)I" } : Jvm.MethodName) jdk_42_method_157_code (3 : Nat) (Option.some Jvm.ClassFile.FieldType.int), Jvm.Cond.code ({ cls := "jdk/internal/util/Preconditions", name := "checkFromIndexSize", desc := "(IIILjava/util/function/BiFunction;)I" } : Jvm.MethodName) jdk_41_method_13_code (4 : Nat) (Option.some Jvm.ClassFile.FieldType.int), Jvm.Cond.code ({ cls := "java/lang/StringUTF16", name := "toBytes", desc := "(C)[B" } : Jvm.MethodName) jdk_52_method_24_code (2 : Nat) (Option.some (Jvm.ClassFile.FieldType.array Jvm.ClassFile.FieldType.byte))]
set_option maxRecDepth 65536 in
theorem codes_eq : words1.filter isCode = codes1 := rfl
theorem w_codes : ∀ c ∈ words1.filter isCode, c.before args0 about1 = true := by
  rw [codes_eq]
  intro c hc
  simp only [codes1, List.mem_cons, List.not_mem_nil, or_false] at hc
  rcases hc with rfl | rfl | rfl | rfl | rfl | rfl | rfl | rfl | rfl | rfl | rfl | rfl | rfl | rfl | rfl | rfl | rfl | rfl | rfl | rfl | rfl | rfl | rfl | rfl | rfl | rfl | rfl | rfl | rfl | rfl | rfl | rfl | rfl | rfl | rfl | rfl | rfl | rfl | rfl | rfl | rfl | rfl | rfl | rfl | rfl | rfl | rfl | rfl | rfl | rfl | rfl | rfl | rfl | rfl | rfl | rfl | rfl | rfl | rfl
  · exact w_c0
  · exact w_c1
  · exact w_c2
  · exact w_c3
  · exact w_c4
  · exact w_c5
  · exact w_c6
  · exact w_c7
  · exact w_c8
  · exact w_c9
  · exact w_c10
  · exact w_c11
  · exact w_c12
  · exact w_c13
  · exact w_c14
  · exact w_c15
  · exact w_c16
  · exact w_c17
  · exact w_c18
  · exact w_c19
  · exact w_c20
  · exact w_c21
  · exact w_c22
  · exact w_c23
  · exact w_c24
  · exact w_c25
  · exact w_c26
  · exact w_c27
  · exact w_c28
  · exact w_c29
  · exact w_c30
  · exact w_c31
  · exact w_c32
  · exact w_c33
  · exact w_c34
  · exact w_c35
  · exact w_c36
  · exact w_c37
  · exact w_c38
  · exact w_c39
  · exact w_c40
  · exact w_c41
  · exact w_c42
  · exact w_c43
  · exact w_c44
  · exact w_c45
  · exact w_c46
  · exact w_c47
  · exact w_c48
  · exact w_c49
  · exact w_c50
  · exact w_c51
  · exact w_c52
  · exact w_c53
  · exact w_c54
  · exact w_c55
  · exact w_c56
  · exact w_c57
  · exact w_c58
set_option maxRecDepth 65536 in
theorem w_t1 : (words1.take 24).all (fun c => isCode c || c.before args0 about1) = true := by decide +kernel
set_option maxRecDepth 65536 in
theorem w_t2 : ((words1.drop 24).take 24).all (fun c => isCode c || c.before args0 about1) = true := by decide +kernel
set_option maxRecDepth 65536 in
theorem w_t3 : (((words1.drop 24).drop 24).take 24).all (fun c => isCode c || c.before args0 about1) = true := by decide +kernel
set_option maxRecDepth 65536 in
theorem w_t4 : ((((words1.drop 24).drop 24).drop 24).take 24).all (fun c => isCode c || c.before args0 about1) = true := by decide +kernel
set_option maxRecDepth 65536 in
theorem w_t5 : (((((words1.drop 24).drop 24).drop 24).drop 24).take 24).all (fun c => isCode c || c.before args0 about1) = true := by decide +kernel
set_option maxRecDepth 65536 in
theorem w_t6 : ((((((words1.drop 24).drop 24).drop 24).drop 24).drop 24).take 24).all (fun c => isCode c || c.before args0 about1) = true := by decide +kernel
set_option maxRecDepth 65536 in
theorem w_t7 : (((((((words1.drop 24).drop 24).drop 24).drop 24).drop 24).drop 24).take 24).all (fun c => isCode c || c.before args0 about1) = true := by decide +kernel
set_option maxRecDepth 65536 in
theorem w_t8 : ((((((((words1.drop 24).drop 24).drop 24).drop 24).drop 24).drop 24).drop 24).take 24).all (fun c => isCode c || c.before args0 about1) = true := by decide +kernel
set_option maxRecDepth 65536 in
theorem w_t9 : (((((((((words1.drop 24).drop 24).drop 24).drop 24).drop 24).drop 24).drop 24).drop 24).take 24).all (fun c => isCode c || c.before args0 about1) = true := by decide +kernel
set_option maxRecDepth 65536 in
theorem w_t10 : ((((((((((words1.drop 24).drop 24).drop 24).drop 24).drop 24).drop 24).drop 24).drop 24).drop 24).take 24).all (fun c => isCode c || c.before args0 about1) = true := by decide +kernel
set_option maxRecDepth 65536 in
theorem w_t11 : (((((((((((words1.drop 24).drop 24).drop 24).drop 24).drop 24).drop 24).drop 24).drop 24).drop 24).drop 24).take 24).all (fun c => isCode c || c.before args0 about1) = true := by decide +kernel
set_option maxRecDepth 65536 in
theorem w_t12 : ((((((((((((words1.drop 24).drop 24).drop 24).drop 24).drop 24).drop 24).drop 24).drop 24).drop 24).drop 24).drop 24).take 24).all (fun c => isCode c || c.before args0 about1) = true := by decide +kernel
set_option maxRecDepth 65536 in
theorem w_t13 : ((((((((((((words1.drop 24).drop 24).drop 24).drop 24).drop 24).drop 24).drop 24).drop 24).drop 24).drop 24).drop 24).drop 24).all (fun c => isCode c || c.before args0 about1) = true := by decide +kernel
theorem w_tables : (allAtoms (Jvm.Cond.code x code maxLocals ret :: tables_1)).before args0 about1 = true := by
  rw [allAtoms_all]
  show words1.all (fun c => c.before args0 about1) = true
  refine all_split ?_ w_codes
  rw [← List.take_append_drop 24 words1, List.all_append, w_t1, ← List.take_append_drop 24 (words1.drop 24), List.all_append, w_t2, ← List.take_append_drop 24 ((words1.drop 24).drop 24), List.all_append, w_t3, ← List.take_append_drop 24 (((words1.drop 24).drop 24).drop 24), List.all_append, w_t4, ← List.take_append_drop 24 ((((words1.drop 24).drop 24).drop 24).drop 24), List.all_append, w_t5, ← List.take_append_drop 24 (((((words1.drop 24).drop 24).drop 24).drop 24).drop 24), List.all_append, w_t6, ← List.take_append_drop 24 ((((((words1.drop 24).drop 24).drop 24).drop 24).drop 24).drop 24), List.all_append, w_t7, ← List.take_append_drop 24 (((((((words1.drop 24).drop 24).drop 24).drop 24).drop 24).drop 24).drop 24), List.all_append, w_t8, ← List.take_append_drop 24 ((((((((words1.drop 24).drop 24).drop 24).drop 24).drop 24).drop 24).drop 24).drop 24), List.all_append, w_t9, ← List.take_append_drop 24 (((((((((words1.drop 24).drop 24).drop 24).drop 24).drop 24).drop 24).drop 24).drop 24).drop 24), List.all_append, w_t10, ← List.take_append_drop 24 ((((((((((words1.drop 24).drop 24).drop 24).drop 24).drop 24).drop 24).drop 24).drop 24).drop 24).drop 24), List.all_append, w_t11, ← List.take_append_drop 24 (((((((((((words1.drop 24).drop 24).drop 24).drop 24).drop 24).drop 24).drop 24).drop 24).drop 24).drop 24).drop 24), List.all_append, w_t12, w_t13]
  rfl
set_option maxRecDepth 65536 in
theorem w_rest : rest_1_c.before args0 about1 = true := by decide +kernel
set_option maxRecDepth 65536 in
theorem w_case : (Jvm.Cond.and given_1 narrow_1).before args0 about1 = true := by decide +kernel
set_option maxRecDepth 65536 in
theorem w_consts : constsHeld consts_1 about1 := Jvm.Lit.constsHeldB_iff.mp (by decide +kernel)
theorem w_applies : (headSpec (Jvm.Cond.code x code maxLocals ret :: tables_1) room_1).applies x e0.platform about1 = true :=
  (Spec.applies_iff w_frames).mpr ⟨w_running, w_runnable, w_alone, w_named, w_hears, w_ripe, w_room, w_tables⟩
theorem atStart : AtStart classFile x code maxLocals ret World_1 tables_1 room_1 Calls_1 rest_1 Pre_1 launch0 p0 e0 about1 theMethod args0 below0 :=
  ⟨lists_1, trivial, launch0.admits_env _ _ _, launch0.least_env, fairChoices_fair.cas, fairChoices_fair.clock, w_frames, w_args, w_heap, w_applies, ⟨w_consts, trivial⟩, w_rest, w_case⟩
end start1
theorem witness_1 : WitnessClaimed_1 := ⟨start1.p0, start1.e0, start1.about1, start1.theMethod, start1.args0, start1.below0, start1.atStart⟩
end Jvm.Pilot.@@N@@
